import JvmDerived
import JvmDerived.Pilot.@@N@@Statement
import JvmDerived.Pilot.@@N@@Code
set_option linter.unusedVariables false
set_option linter.unusedSimpArgs false

namespace Jvm.Pilot.@@N@@
open Jvm Jvm.ClassFile Sem Op Lib Jvm.Free Jvm.Stand Jvm.LawKit Jvm.RoadKit Bundle Jvm.Pilot.@@N@@.Jvm.D
/-! 1. the goal of a walk, and its steps -/
section OwnGoal
variable {p : Program} {l : Launch} {e : Env} {R : Room} {s : State} {m : MethodId} {args : Array Value} {below : List Frame} {meth : Method} {c : Code} {T : State} {locs : List Loc} {cells slots : Nat}
/-- from the state S the body returns, P holds of what it leaves, and the frame is kept -/
def Gl (p : Program) (e : Env) (below : List Frame) (s : State) (kc ks : Nat) (P : Option Value → Heap → List Loc → Prop) (S : State) : Prop :=
  ∃ t o, Steps p.tables e below S t ∧ t.status = .running ∧ Ended t below o ∧ ∃ v L, o = .returned v ∧ P v t.heap L ∧ FrameEnd s o t L kc ks
variable {kc ks : Nat} {P : Option Value → Heap → List Loc → Prop}
theorem Gl.on {A B : State} (h : ∀ t, Steps p.tables e below B t → Steps p.tables e below A t) (k : Gl p e below s kc ks P B) : Gl p e below s kc ks P A := by
  obtain ⟨t, o, h1, h2⟩ := k
  exact ⟨t, o, h t h1, h2⟩
theorem own_to {tb : Tables} {A B t : State} (q : A = B) (k : Steps tb e below B t) : Steps tb e below A t := q ▸ k
theorem Gl.out (X : Stand p l e R s m args below meth c T locs cells slots) (hx : p.tables.exec = Jvm.exec) (hlk : meth.locks = false) {pc : Nat} {Ls : Array Slot} {w : Value} {t : FieldType} {i : Instr} {rest : List Value} (hret : meth.sig.returnType = some t) (hn : narrow t w = w)
    (hi : (i = .ireturn ∧ (t = .int ∨ t = .boolean ∨ t = .byte ∨ t = .char ∨ t = .short) ∧ ∃ z, w = .int z) ∨ (i = .lreturn ∧ t = .long ∧ ∃ z, w = .long z) ∨ (i = .dreturn ∧ t = .double ∧ ∃ z, w = .double z) ∨ (i = .freturn ∧ t = .float ∧ ∃ z, w = .float z) ∨ (i = .areturn ∧ t.isReference = true ∧ w.isRef = true))
    (hd : decode c.code pc = .ok (i, 1)) (hP : P (some w) T.heap locs) (hc : cells ≤ kc) (hs : slots ≤ ks) : Gl p e below s kc ks P (T.setTop (mkF m pc Ls (w :: rest))) := by
  obtain ⟨fs, hr, hrun, hended, hW, hsame⟩ := X.leave (v := some w) (fun h => by rw [hret] at h; cases h) hlk
  exact ⟨_, _, retOut X hx hret hn hi hd hr, hrun, hended, _, _, rfl, hP, ⟨_, rfl⟩, hW, hsame.mono hc hs⟩
theorem Gl.outI (X : Stand p l e R s m args below meth c T locs cells slots) (hx : p.tables.exec = Jvm.exec) (hlk : meth.locks = false) {pc : Nat} {Ls : Array Slot} {z : Int32} {rest : List Value} (hret : meth.sig.returnType = some .int)
    (hd : decode c.code pc = .ok (.ireturn, 1)) (hP : P (some (.int z)) T.heap locs) (hc : cells ≤ kc) (hs : slots ≤ ks) : Gl p e below s kc ks P (T.setTop (mkF m pc Ls (.int z :: rest))) :=
  Gl.out X hx hlk hret rfl (Or.inl ⟨rfl, Or.inl rfl, z, rfl⟩) hd hP hc hs
theorem Gl.outJ (X : Stand p l e R s m args below meth c T locs cells slots) (hx : p.tables.exec = Jvm.exec) (hlk : meth.locks = false) {pc : Nat} {Ls : Array Slot} {z : Int64} {rest : List Value} (hret : meth.sig.returnType = some .long)
    (hd : decode c.code pc = .ok (.lreturn, 1)) (hP : P (some (.long z)) T.heap locs) (hc : cells ≤ kc) (hs : slots ≤ ks) : Gl p e below s kc ks P (T.setTop (mkF m pc Ls (.long z :: rest))) :=
  Gl.out X hx hlk hret rfl (Or.inr (Or.inl ⟨rfl, rfl, z, rfl⟩)) hd hP hc hs
theorem Gl.outR (X : Stand p l e R s m args below meth c T locs cells slots) (hx : p.tables.exec = Jvm.exec) (hlk : meth.locks = false) {pc : Nat} {Ls : Array Slot} {a : Addr} {t : FieldType} {rest : List Value} (hret : meth.sig.returnType = some t) (ht : t.isReference = true)
    (hd : decode c.code pc = .ok (.areturn, 1)) (hP : P (some (.ref a)) T.heap locs) (hc : cells ≤ kc) (hs : slots ≤ ks) : Gl p e below s kc ks P (T.setTop (mkF m pc Ls (.ref a :: rest))) :=
  Gl.out X hx hlk hret (by cases t <;> first | rfl | cases ht) (Or.inr (Or.inr (Or.inr (Or.inr ⟨rfl, ht, rfl⟩)))) hd hP hc hs
theorem Gl.outN (X : Stand p l e R s m args below meth c T locs cells slots) (hx : p.tables.exec = Jvm.exec) (hlk : meth.locks = false) {pc : Nat} {Ls : Array Slot} {z : Int32} {t : FieldType} {rest : List Value} (hret : meth.sig.returnType = some t) (ht : t = .boolean ∨ t = .byte ∨ t = .char ∨ t = .short)
    (hd : decode c.code pc = .ok (.ireturn, 1)) (hP : P (some (.int (nar t z))) T.heap locs) (hc : cells ≤ kc) (hs : slots ≤ ks) : Gl p e below s kc ks P (T.setTop (mkF m pc Ls (.int z :: rest))) := by
  obtain ⟨fs, hr, hrun, hended, hW, hsame⟩ := X.leave (v := some (.int (nar t z))) (fun h => by rw [hret] at h; cases h) hlk
  exact ⟨_, _, retN X hx hret ht hd hr, hrun, hended, _, _, rfl, hP, ⟨_, rfl⟩, hW, hsame.mono hc hs⟩
theorem Gl.outV (X : Stand p l e R s m args below meth c T locs cells slots) (hx : p.tables.exec = Jvm.exec) (hlk : meth.locks = false) {pc : Nat} {Ls : Array Slot} (hret : meth.sig.returnType = none)
    (hd : decode c.code pc = .ok (.return_, 1)) (hP : P none T.heap locs) (hc : cells ≤ kc) (hs : slots ≤ ks) : Gl p e below s kc ks P (T.setTop (mkF m pc Ls [])) := by
  obtain ⟨fs, hr, hrun, hended, hW, hsame⟩ := X.leave (v := none) (fun _ => rfl) hlk
  exact ⟨_, _, X.returnOut hx hret hd hr, hrun, hended, _, _, rfl, hP, ⟨_, rfl⟩, hW, hsame.mono hc hs⟩
end OwnGoal
/-- two slots: both empty, or a long -/
def Two (a b : Slot) : Prop := (a = .unset ∧ b = .unset) ∨ ∃ z : Int64, a = .val (.long z) ∧ b = .second
theorem own_inj {α β : Type} {a b : α} {c d : β} (h : some (a, c) = some (b, d)) : a = b ∧ c = d := by cases h; exact ⟨rfl, rfl⟩
theorem own_inj1 {α : Type} {a b : α} (h : some a = some b) : a = b := by cases h; rfl
def own_let {α β : Type} (a : α) (f : α → β) : β := f a
theorem own_letE {α β : Type} {a : α} {f : α → β} {b : β} (h : own_let a f = b) : ∃ x, a = x ∧ f x = b := ⟨a, rfl, h⟩
theorem own_bind {α β : Type} {o : Option α} {f : α → Option β} {b : β} (h : o.bind f = some b) : ∃ x, o = some x ∧ f x = some b := by
  cases o with
  | none => cases h
  | some x => exact ⟨x, rfl, h⟩
/-! 2. what the law has made: a list of objects, each with its kind and its values; a reference is a place in that list -/
abbrev Hp := List (Nat × List Value)
abbrev Kt := Nat → FieldType × List (String × String)
def sh (n0 : Nat) : Value → Value
  | .ref k => .ref (n0 + k)
  | v => v
def gV (D : Hp) (a t i : Nat) : Option Value := (D[a]?).bind fun ob => if ob.1 = t then ob.2[i]? else none
def asI : Value → Option Int32
  | .int x => some x
  | _ => none
def asJ : Value → Option Int64
  | .long x => some x
  | _ => none
def asR : Value → Option Nat
  | .ref x => some x
  | _ => none
def gI (D : Hp) (a t i : Nat) : Option Int32 := (gV D a t i).bind asI
def gJ (D : Hp) (a t i : Nat) : Option Int64 := (gV D a t i).bind asJ
def gR (D : Hp) (a t i : Nat) : Option Nat := (gV D a t i).bind asR
def ck (D : Hp) (a t : Nat) : Option Nat := (D[a]?).bind fun ob => if ob.1 = t then some t else none
def pV (D : Hp) (a t i : Nat) (v : Value) : Option Hp := (D[a]?).bind fun ob => if ob.1 = t then (if i < ob.2.length then some (D.set a (t, ob.2.set i v)) else none) else none
def rV (D : Hp) (a t : Nat) (j : Int32) : Option Value := (D[a]?).bind fun ob => if ob.1 = t then (if j < 0 then none else ob.2[j.toNatClampNeg]?) else none
def rI (D : Hp) (a t : Nat) (j : Int32) : Option Int32 := (rV D a t j).bind asI
def rJ (D : Hp) (a t : Nat) (j : Int32) : Option Int64 := (rV D a t j).bind asJ
def wV (D : Hp) (a t : Nat) (j : Int32) (v : Value) : Option Hp := (D[a]?).bind fun ob => if ob.1 = t then (if j < 0 then none else if j.toNatClampNeg < ob.2.length then some (D.set a (t, ob.2.set j.toNatClampNeg v)) else none) else none
def lA (D : Hp) (a t : Nat) : Option Int32 := (D[a]?).bind fun ob => if ob.1 = t then some ob.2.length.toInt32 else none
def nA (D : Hp) (t : Nat) (n : Int32) (cap : Nat) (z : Value) : Option Hp := if n < 0 then none else if n.toNatClampNeg ≤ cap then some (D ++ [(t, List.replicate n.toNatClampNeg z)]) else none
def cA' (D : Hp) (a t cap : Nat) : Option Hp := (D[a]?).bind fun ob => if ob.1 = t then (if ob.2.length ≤ cap then some (D ++ [(t, ob.2)]) else none) else none
def cL (D : Hp) (a t cap : Nat) : Option Nat := (D[a]?).bind fun ob => if ob.1 = t then (if ob.2.length ≤ cap then some 0 else none) else none
def Ob1 (K : Kt) (Z : State) (h : Heap) (n0 a t : Nat) (vs : List Value) : Prop :=
  (∀ ty, (K t).1 = .array ty → Exa Z h a ("[" ++ ty.toString) ∧ ∃ c : Cell, Arr Z h a c ty ∧ c.slots = (vs.map (sh n0)).toArray ∧ vs.length < 2 ^ 31 ∧ ∀ v ∈ vs, fits ty v = true) ∧
  (∀ C, (K t).1 = .object C → Exa Z h a C ∧ ∀ (i : Nat) (f d : String), (K t).2[i]? = some (f, d) → ∃ v : Value, vs[i]? = some v ∧ Fld Z h a C f d (sh n0 v))
/-- no marker lies in the list (a marker, kind 98: from here on the heap may hold more than the list) -/
def noM (D : Hp) : Prop := ∀ (k t : Nat) (vs : List Value), D[k]? = some (t, vs) → t ≠ 98
def nm (D : Hp) : Option Nat := if D.all (fun ob => ob.1 != 98) then some 0 else none
theorem nm_e {D : Hp} {q : Nat} (h : nm D = some q) : noM D := by
  by_cases c : D.all (fun ob => ob.1 != 98) = true
  · intro k t vs hk e
    have := List.all_eq_true.mp c _ (List.mem_of_getElem? hk)
    subst e
    simp at this
  · rw [nm, if_neg c] at h; cases h
def Ow (K : Kt) (Z : State) (h : Heap) (n0 : Nat) (D : Hp) : Prop := (noM D → h.size = n0 + D.length) ∧ ∀ (k t : Nat) (vs : List Value), D[k]? = some (t, vs) → Ob1 K Z h n0 (n0 + k) t vs
def Lay (K : Kt) (Z : State) (a0 : Array Value) : Prop := ∀ t C, (K t).1 = .object C → (∀ q ∈ (K t).2, Laid Z a0 C C q.1 q.2 ∧ ∃ ty, parseFieldDescriptor q.2 = some ty) ∧ ((K t).2.map Prod.fst).Nodup
section OwnHeap
variable {K : Kt} {Z : State} {h h' : Heap} {n0 : Nat} {D D' : Hp} {a t i : Nat} {v : Value} {j : Int32} {C f d : String} {ty : FieldType}
theorem gV_e (hg : gV D a t i = some v) : ∃ vs, D[a]? = some (t, vs) ∧ vs[i]? = some v := by
  obtain ⟨⟨t', vs⟩, h1, h2⟩ := own_bind hg
  by_cases q : t' = t
  · subst q; rw [if_pos rfl] at h2; exact ⟨vs, h1, h2⟩
  · rw [if_neg q] at h2; cases h2
theorem gI_e {x : Int32} (hg : gI D a t i = some x) : gV D a t i = some (.int x) := by
  obtain ⟨w, h1, h2⟩ := own_bind hg
  cases w <;> cases h2; exact h1
theorem gJ_e {x : Int64} (hg : gJ D a t i = some x) : gV D a t i = some (.long x) := by
  obtain ⟨w, h1, h2⟩ := own_bind hg
  cases w <;> cases h2; exact h1
theorem gR_e {x : Nat} (hg : gR D a t i = some x) : gV D a t i = some (.ref x) := by
  obtain ⟨w, h1, h2⟩ := own_bind hg
  cases w <;> cases h2; exact h1
theorem ck_e {q : Nat} (hg : ck D a t = some q) : ∃ vs, D[a]? = some (t, vs) := by
  obtain ⟨⟨t', vs⟩, h1, h2⟩ := own_bind hg
  by_cases q : t' = t
  · subst q; exact ⟨vs, h1⟩
  · rw [if_neg q] at h2; cases h2
theorem rV_e (hg : rV D a t j = some v) : ∃ vs, D[a]? = some (t, vs) ∧ ¬ j < 0 ∧ vs[j.toNatClampNeg]? = some v := by
  obtain ⟨⟨t', vs⟩, h1, h2⟩ := own_bind hg
  by_cases q : t' = t
  · subst q; rw [if_pos rfl] at h2
    by_cases r : j < 0
    · rw [if_pos r] at h2; cases h2
    · rw [if_neg r] at h2; exact ⟨vs, h1, r, h2⟩
  · rw [if_neg q] at h2; cases h2
theorem rI_e {x : Int32} (hg : rI D a t j = some x) : rV D a t j = some (.int x) := by
  obtain ⟨w, h1, h2⟩ := own_bind hg
  cases w <;> cases h2; exact h1
theorem rJ_e {x : Int64} (hg : rJ D a t j = some x) : rV D a t j = some (.long x) := by
  obtain ⟨w, h1, h2⟩ := own_bind hg
  cases w <;> cases h2; exact h1
theorem wV_e (hg : wV D a t j v = some D') : ∃ vs, D[a]? = some (t, vs) ∧ ¬ j < 0 ∧ j.toNatClampNeg < vs.length ∧ D' = D.set a (t, vs.set j.toNatClampNeg v) := by
  obtain ⟨⟨t', vs⟩, h1, h2⟩ := own_bind hg
  by_cases q : t' = t
  · subst q; rw [if_pos rfl] at h2
    by_cases r : j < 0
    · rw [if_pos r] at h2; cases h2
    · rw [if_neg r] at h2
      by_cases u : j.toNatClampNeg < vs.length
      · rw [if_pos u] at h2; cases h2; exact ⟨vs, h1, r, u, rfl⟩
      · rw [if_neg u] at h2; cases h2
  · rw [if_neg q] at h2; cases h2
theorem pV_e (hg : pV D a t i v = some D') : ∃ vs, D[a]? = some (t, vs) ∧ i < vs.length ∧ D' = D.set a (t, vs.set i v) := by
  obtain ⟨⟨t', vs⟩, h1, h2⟩ := own_bind hg
  by_cases q : t' = t
  · subst q; rw [if_pos rfl] at h2
    by_cases u : i < vs.length
    · rw [if_pos u] at h2; cases h2; exact ⟨vs, h1, u, rfl⟩
    · rw [if_neg u] at h2; cases h2
  · rw [if_neg q] at h2; cases h2
theorem cA_e {cap : Nat} (hg : cA' D a t cap = some D') : ∃ vs, D[a]? = some (t, vs) ∧ vs.length ≤ cap ∧ D' = D ++ [(t, vs)] := by
  obtain ⟨⟨t', vs⟩, h1, h2⟩ := own_bind hg
  by_cases q : t' = t
  · subst q; rw [if_pos rfl] at h2
    by_cases u : vs.length ≤ cap
    · rw [if_pos u] at h2; cases h2; exact ⟨vs, h1, u, rfl⟩
    · rw [if_neg u] at h2; cases h2
  · rw [if_neg q] at h2; cases h2
theorem cL_e {cap q : Nat} (hg : cL D a t cap = some q) : ∃ vs, D[a]? = some (t, vs) ∧ vs.length ≤ cap := by
  obtain ⟨⟨t', vs⟩, h1, h2⟩ := own_bind hg
  by_cases q : t' = t
  · subst q; rw [if_pos rfl] at h2
    by_cases u : vs.length ≤ cap
    · exact ⟨vs, h1, u⟩
    · rw [if_neg u] at h2; cases h2
  · rw [if_neg q] at h2; cases h2
theorem lA_e {x : Int32} (hg : lA D a t = some x) : ∃ vs, D[a]? = some (t, vs) ∧ x = vs.length.toInt32 := by
  obtain ⟨⟨t', vs⟩, h1, h2⟩ := own_bind hg
  by_cases q : t' = t
  · subst q; rw [if_pos rfl] at h2; cases h2; exact ⟨vs, h1, rfl⟩
  · rw [if_neg q] at h2; cases h2
theorem Ow.fld (O : Ow K Z h n0 D) (hg : gV D a t i = some v) (hK : (K t).1 = .object C) (hf : (K t).2[i]? = some (f, d)) : Fld Z h (n0 + a) C f d (sh n0 v) := by
  obtain ⟨vs, h1, h2⟩ := gV_e hg
  obtain ⟨w, h3, h4⟩ := ((O.2 a t vs h1).2 C hK).2 i f d hf
  cases h2.symm.trans h3; exact h4
theorem Ow.fld0 (O : Ow K Z h n0 D) (hg : pV D a t i v = some D') (hK : (K t).1 = .object C) (hf : (K t).2[i]? = some (f, d)) : ∃ w, Fld Z h (n0 + a) C f d w := by
  obtain ⟨vs, h1, h2, -⟩ := pV_e hg
  obtain ⟨w, h3, h4⟩ := ((O.2 a t vs h1).2 C hK).2 i f d hf
  exact ⟨_, h4⟩
theorem Ow.exa (O : Ow K Z h n0 D) {vs : List Value} (hg : D[a]? = some (t, vs)) (hK : (K t).1 = .object C) : Exa Z h (n0 + a) C := ((O.2 a t vs hg).2 C hK).1
theorem Ow.exaC (O : Ow K Z h n0 D) {q : Nat} (hg : ck D a t = some q) (hK : (K t).1 = .object C) : Exa Z h (n0 + a) C := by
  obtain ⟨vs, h1⟩ := ck_e hg; exact O.exa h1 hK
theorem Ow.exaP (O : Ow K Z h n0 D) (hg : pV D a t i v = some D') (hK : (K t).1 = .object C) : Exa Z h (n0 + a) C := by
  obtain ⟨vs, h1, -⟩ := pV_e hg; exact O.exa h1 hK
theorem sh_len (vs : List Value) : ((vs.map (sh n0)).toArray).size = vs.length := by simp
/-- the array at a, its cell, that the place j lies in it and what it holds -/
theorem Ow.arrR (O : Ow K Z h n0 D) (hg : rV D a t j = some v) (hK : (K t).1 = .array ty) : ∃ c : Cell, Arr Z h (n0 + a) c ty ∧ ¬ (j < 0 ∨ c.slots.size ≤ j.toNatClampNeg) ∧ c.slots[j.toNatClampNeg]? = some (sh n0 v) := by
  obtain ⟨vs, h1, h2, h3⟩ := rV_e hg
  obtain ⟨-, c, A, hs, -, -⟩ := (O.2 a t vs h1).1 ty hK
  have hlt := (List.getElem?_eq_some_iff.mp h3).1
  refine ⟨c, A, ?_, ?_⟩
  · rw [hs, sh_len]; intro q; rcases q with q | q
    · exact h2 q
    · omega
  · rw [hs]; simp [h3]
theorem Ow.arrL (O : Ow K Z h n0 D) {x : Int32} (hg : lA D a t = some x) (hK : (K t).1 = .array ty) : ∃ c : Cell, Arr Z h (n0 + a) c ty ∧ c.slots.size.toInt32 = x := by
  obtain ⟨vs, h1, h2⟩ := lA_e hg
  obtain ⟨-, c, A, hs, -, -⟩ := (O.2 a t vs h1).1 ty hK
  exact ⟨c, A, by rw [hs, sh_len, h2]⟩
theorem Ow.arrW (O : Ow K Z h n0 D) (hg : wV D a t j v = some D') (hK : (K t).1 = .array ty) : ∃ c : Cell, Arr Z h (n0 + a) c ty ∧ ¬ (j < 0 ∨ c.slots.size ≤ j.toNatClampNeg) := by
  obtain ⟨vs, h1, h2, h3, -⟩ := wV_e hg
  obtain ⟨-, c, A, hs, -, -⟩ := (O.2 a t vs h1).1 ty hK
  refine ⟨c, A, ?_⟩
  rw [hs, sh_len]; intro q; rcases q with q | q
  · exact h2 q
  · omega
theorem own_get_set {k : Nat} {ob ob' : Nat × List Value} (hk : (D.set a ob)[k]? = some ob') : (k = a ∧ ob' = ob ∧ a < D.length) ∨ (k ≠ a ∧ D[k]? = some ob') := by
  by_cases q : k = a
  · subst q
    rw [List.getElem?_set] at hk
    simp only [if_true] at hk
    by_cases r : k < D.length
    · rw [if_pos r] at hk; cases hk; exact Or.inl ⟨rfl, rfl, r⟩
    · rw [if_neg r] at hk; cases hk
  · rw [List.getElem?_set_ne (Ne.symm q)] at hk; exact Or.inr ⟨q, hk⟩
theorem noM_set {ob vs' : List Value} (h1 : D[a]? = some (t, ob)) (hm : noM (D.set a (t, vs'))) : noM D := fun k t' w hk => by
  by_cases q : k = a
  · subst q
    have e : (t, ob) = (t', w) := Option.some.inj (h1.symm.trans hk)
    cases e
    have hlt := (List.getElem?_eq_some_iff.mp h1).1
    exact hm k t vs' (by rw [List.getElem?_set]; simp [hlt])
  · exact hm k t' w (by rw [List.getElem?_set_ne (Ne.symm q)]; exact hk)
theorem Ob1.other {x y k : Nat} {vs : List Value} {w : Value} {sl : Nat} (B : Ob1 K Z h n0 x k vs) (W : Wr h h' y sl w) (hne : x ≠ y) : Ob1 K Z h' n0 x k vs := by
  refine ⟨fun ty hK => ?_, fun C hK => ?_⟩
  · obtain ⟨E, c, A, r⟩ := B.1 ty hK
    exact ⟨E.wr W, c, A.other W hne, r⟩
  · obtain ⟨E, F⟩ := B.2 C hK
    refine ⟨E.wr W, fun i f d hi => ?_⟩
    obtain ⟨v, h1, h2⟩ := F i f d hi
    exact ⟨v, h1, h2.other W (Or.inl hne)⟩
theorem Ow.st (O : Ow K Z h n0 D) (hg : wV D a t j v = some D') (hK : (K t).1 = .array ty) (hfit : fits ty v = true) (W : Wr h h' (n0 + a) j.toNatClampNeg (sh n0 v)) : Ow K Z h' n0 D' := by
  obtain ⟨vs, h1, h2, h3, rfl⟩ := wV_e hg
  refine ⟨fun hm => by rw [W.size, O.1 (noM_set h1 hm), List.length_set], fun k t' vs' hk => ?_⟩
  rcases own_get_set hk with ⟨rfl, e, -⟩ | ⟨hne, hk'⟩
  · cases e
    refine ⟨fun ty' hK' => ?_, fun C hK' => ?_⟩
    · cases hK.symm.trans hK'
      obtain ⟨E, c, A, hs, hl, hf⟩ := (O.2 _ _ vs h1).1 _ hK
      refine ⟨E.wr W, _, A.same W, ?_, by rw [List.length_set]; exact hl, fun w hw => ?_⟩
      · simp only [Cell.setSlot, hs]
        rw [List.map_set]
        simp
      · rcases List.mem_or_eq_of_mem_set hw with q | q
        · exact hf w q
        · rw [q]; exact hfit
    · rw [hK] at hK'; cases hK'
  · exact (O.2 k t' vs' hk').other W (by omega)
theorem Ow.put {a0 : Array Value} (O : Ow K Z h n0 D) (hL : Lay K Z a0) (hg : pV D a t i v = some D') (hK : (K t).1 = .object C) (hf : (K t).2[i]? = some (f, d)) (W : Wr h h' (n0 + a) (Jvm.RoadKit.slotOf Z C f d) (sh n0 v)) : Ow K Z h' n0 D' := by
  obtain ⟨vs, h1, h3, rfl⟩ := pV_e hg
  refine ⟨fun hm => by rw [W.size, O.1 (noM_set h1 hm), List.length_set], fun k t' vs' hk => ?_⟩
  rcases own_get_set hk with ⟨rfl, e, -⟩ | ⟨hne, hk'⟩
  · cases e
    refine ⟨fun ty' hK' => (by rw [hK] at hK'; cases hK'), fun C' hK' => ?_⟩
    cases hK.symm.trans hK'
    obtain ⟨E, F⟩ := (O.2 _ _ vs h1).2 _ hK
    refine ⟨E.wr W, fun i' f' d' hi' => ?_⟩
    obtain ⟨w, g1, g2⟩ := F i' f' d' hi'
    by_cases q : i' = i
    · subst q
      cases hf.symm.trans hi'
      exact ⟨v, by rw [List.getElem?_set]; simp [h3], g2.same W⟩
    · refine ⟨w, by rw [List.getElem?_set_ne (Ne.symm q)]; exact g1, g2.other W (Or.inr ?_)⟩
      obtain ⟨hl, hn⟩ := hL t C hK
      obtain ⟨l1, ty1, p1⟩ := hl _ (List.mem_of_getElem? hf)
      obtain ⟨l2, ty2, p2⟩ := hl _ (List.mem_of_getElem? hi')
      refine slot_ne l2 l1 (fun e => q ?_) p2 p1
      have m1 : ((K t).2.map Prod.fst)[i]? = some f := by rw [List.getElem?_map, hf]; rfl
      have m2 : ((K t).2.map Prod.fst)[i']? = some f' := by rw [List.getElem?_map, hi']; rfl
      obtain ⟨b1, c1⟩ := List.getElem?_eq_some_iff.mp m1
      obtain ⟨b2, c2⟩ := List.getElem?_eq_some_iff.mp m2
      exact (List.getElem_inj hn).mp (by rw [c1, c2]; exact e)
  · exact (O.2 k t' vs' hk').other W (by omega)
theorem Ob1.ext {x k : Nat} {vs : List Value} (B : Ob1 K Z h n0 x k vs) (E : Ext h h') : Ob1 K Z h' n0 x k vs := by
  refine ⟨fun ty hK => ?_, fun C hK => ?_⟩
  · obtain ⟨F, c, A, r⟩ := B.1 ty hK
    exact ⟨F.ext E, c, A.ext E, r⟩
  · obtain ⟨X, F⟩ := B.2 C hK
    refine ⟨X.ext E, fun i f d hi => ?_⟩
    obtain ⟨v, h1, h2⟩ := F i f d hi
    exact ⟨v, h1, h2.ext E⟩
theorem Ow.push {vs : List Value} (O : Ow K Z h n0 D) (hm : noM D) (E : Ext h h') (hsz : h'.size = h.size + 1) (B : Ob1 K Z h' n0 (n0 + D.length) t vs) : Ow K Z h' n0 (D ++ [(t, vs)]) := by
  refine ⟨fun _ => by rw [hsz, O.1 hm, List.length_append]; rfl, fun k t' vs' hk => ?_⟩
  by_cases q : k < D.length
  · rw [List.getElem?_append_left q] at hk; exact (O.2 k t' vs' hk).ext E
  · rw [List.getElem?_append_right (Nat.le_of_not_lt q)] at hk
    have e : k - D.length = 0 := by
      have := (List.getElem?_eq_some_iff.mp hk).1
      simp only [List.length_singleton] at this; omega
    rw [e] at hk
    have hk2 : (t, vs) = (t', vs') := Option.some.inj hk
    cases hk2
    have : k = D.length := by omega
    rw [this]; exact B
/-- the heap has grown past the list: a marker -/
theorem Ow.mark (O : Ow K Z h n0 D) (E : Ext h h') (h98 : (K 98).1 = .int) : Ow K Z h' n0 (D ++ [(98, [])]) := by
  refine ⟨fun hm => absurd (rfl : (98 : Nat) = 98) (hm D.length 98 [] (by simp)), fun k t' vs' hk => ?_⟩
  by_cases q : k < D.length
  · rw [List.getElem?_append_left q] at hk; exact (O.2 k t' vs' hk).ext E
  · rw [List.getElem?_append_right (Nat.le_of_not_lt q)] at hk
    have e : k - D.length = 0 := by
      have := (List.getElem?_eq_some_iff.mp hk).1
      simp only [List.length_singleton] at this; omega
    rw [e] at hk
    have hk2 : ((98, []) : Nat × List Value) = (t', vs') := Option.some.inj hk
    cases hk2
    exact ⟨fun ty hK => (by rw [h98] at hK; cases hK), fun C hK => (by rw [h98] at hK; cases hK)⟩
/-- a field that the list does not hold is written -/
theorem Ow.putU {a0 : Array Value} {vs : List Value} (O : Ow K Z h n0 D) (hL : Lay K Z a0) (hD : D[a]? = some (t, vs)) (hK : (K t).1 = .object C) (hne : ∀ z ∈ (K t).2, z.1 ≠ f) (Lf : Laid Z a0 C C f d) (hty : parseFieldDescriptor d = some ty) (W : Wr h h' (n0 + a) (Jvm.RoadKit.slotOf Z C f d) v) : Ow K Z h' n0 D := by
  refine ⟨fun hm => by rw [W.size, O.1 hm], fun k t' vs' hk => ?_⟩
  by_cases q : k = a
  · subst q
    have e : (t, vs) = (t', vs') := Option.some.inj (hD.symm.trans hk)
    cases e
    refine ⟨fun ty' hK' => (by rw [hK] at hK'; cases hK'), fun C' hK' => ?_⟩
    cases hK.symm.trans hK'
    obtain ⟨E, F⟩ := (O.2 _ _ vs hD).2 _ hK
    refine ⟨E.wr W, fun i' f' d' hi' => ?_⟩
    obtain ⟨w, g1, g2⟩ := F i' f' d' hi'
    refine ⟨w, g1, g2.other W (Or.inr ?_)⟩
    obtain ⟨l2, ty2, p2⟩ := (hL t C hK).1 _ (List.mem_of_getElem? hi')
    exact slot_ne l2 Lf (hne _ (List.mem_of_getElem? hi')) p2 hty
  · exact (O.2 k t' vs' hk).other W (by omega)
theorem sh_default (ty : FieldType) : sh n0 (defaultValue ty) = defaultValue ty := by cases ty <;> rfl
theorem own_ow0 (h : Heap) : Ow K Z h h.size [] := ⟨fun _ => by simp, fun k t vs hk => by simp at hk⟩
end OwnHeap
/-! 3. the laws of the library, over that list -/
section OwnLaws
variable {p : Program} {l : Launch} {e : Env} {R : Room} {s : State} {m : MethodId} {args : Array Value} {below : List Frame} {meth : Method} {c : Code} {T : State} {locs : List Loc} {cells slots : Nat} {Z : State} {a0 : Array Value} {h : Heap} {K : Kt} {n0 : Nat} {D D' : Hp} {a t : Nat}
theorem ldW (X : Stand p l e R s m args below meth c T locs cells slots) (hx : p.tables.exec = Jvm.exec) (hZ : Z.Warmed39 s.vm) (eT : T.heap = h) (O : Ow K Z h n0 D) {j : Int32} {x : Int32} (hg : rI D a t j = some x) (hK : (K t).1 = .array .int)
    {g : JFrame} (hgm : g.method = m) {rest : List Value} (hs : g.stack = .int j :: .ref (n0 + a) :: rest) (hd : decode c.code g.pc = .ok (.iaload, 1)) (target : State)
    (hr : Steps p.tables e below (T.setTop { g with pc := g.pc + 1, stack := .int x :: rest }) target) : Steps p.tables e below (T.setTop g) target := by
  obtain ⟨cl, A, hin, hat⟩ := O.arrR (rI_e hg) hK
  exact X.iaload hx (v := .int x) (by rw [eT]; exact A.1) (State.isArrayOf_alike hZ.alike A.2.1) A.2.2 hin hat hgm hs hd target hr
theorem ldB (X : Stand p l e R s m args below meth c T locs cells slots) (hx : p.tables.exec = Jvm.exec) (hZ : Z.Warmed39 s.vm) (eT : T.heap = h) (O : Ow K Z h n0 D) {j : Int32} {x : Int32} (hg : rI D a t j = some x) (hK : (K t).1 = .array .byte)
    {g : JFrame} (hgm : g.method = m) {rest : List Value} (hs : g.stack = .int j :: .ref (n0 + a) :: rest) (hd : decode c.code g.pc = .ok (.baload, 1)) (target : State)
    (hr : Steps p.tables e below (T.setTop { g with pc := g.pc + 1, stack := .int x :: rest }) target) : Steps p.tables e below (T.setTop g) target := by
  obtain ⟨cl, A, hin, hat⟩ := O.arrR (rI_e hg) hK
  exact X.baloadBytes hx (v := .int x) (by rw [eT]; exact A.1) (State.isArrayOf_alike hZ.alike A.2.1) A.2.2 hin hat hgm hs hd target hr
theorem ldJ (X : Stand p l e R s m args below meth c T locs cells slots) (hx : p.tables.exec = Jvm.exec) (hZ : Z.Warmed39 s.vm) (eT : T.heap = h) (O : Ow K Z h n0 D) {j : Int32} {x : Int64} (hg : rJ D a t j = some x) (hK : (K t).1 = .array .long)
    {g : JFrame} (hgm : g.method = m) {rest : List Value} (hs : g.stack = .int j :: .ref (n0 + a) :: rest) (hd : decode c.code g.pc = .ok (.laload, 1)) (target : State)
    (hr : Steps p.tables e below (T.setTop { g with pc := g.pc + 1, stack := .long x :: rest }) target) : Steps p.tables e below (T.setTop g) target := by
  obtain ⟨cl, A, hin, hat⟩ := O.arrR (rJ_e hg) hK
  exact X.laload hx (v := .long x) (by rw [eT]; exact A.1) (State.isArrayOf_alike hZ.alike A.2.1) A.2.2 hin hat hgm hs hd target hr
theorem lenW' (X : Stand p l e R s m args below meth c T locs cells slots) (hx : p.tables.exec = Jvm.exec) (hZ : Z.Warmed39 s.vm) (eT : T.heap = h) (O : Ow K Z h n0 D) {x : Int32} (hg : lA D a t = some x) {ty : FieldType} (hK : (K t).1 = .array ty)
    {g : JFrame} (hgm : g.method = m) {rest : List Value} (hs : g.stack = .ref (n0 + a) :: rest) (hd : decode c.code g.pc = .ok (.arraylength, 1)) (target : State)
    (hr : Steps p.tables e below (T.setTop { g with pc := g.pc + 1, stack := .int x :: rest }) target) : Steps p.tables e below (T.setTop g) target := by
  obtain ⟨cl, A, hl⟩ := O.arrL hg hK
  subst hl
  exact X.arraylength hx (by rw [eT]; exact A.1) (State.isArrayOf_alike hZ.alike A.2.1) hgm hs hd target hr
theorem stIW (X : Stand p l e R s m args below meth c T locs cells slots) (hx : p.tables.exec = Jvm.exec) (hZ : Z.Warmed39 s.vm) (eT : T.heap = h) (O : Ow K Z h n0 D) (N : Fr n0 locs) {j x : Int32} (hg : wV D a t j (.int x) = some D') (hK : (K t).1 = .array .int)
    {g : JFrame} (hgm : g.method = m) {rest : List Value} (hs : g.stack = .int x :: .int j :: .ref (n0 + a) :: rest) (hd : decode c.code g.pc = .ok (.iastore, 1)) :
    ∃ T' h' L, Stand p l e R s m args below meth c T' L cells slots ∧ T'.heap = h' ∧ h.size ≤ h'.size ∧ Ow K Z h' n0 D' ∧ Fr n0 L ∧ ∀ target, Steps p.tables e below (T'.setTop { g with pc := g.pc + 1, stack := rest }) target → Steps p.tables e below (T.setTop g) target := by
  obtain ⟨cl, A, hin⟩ := O.arrW hg hK
  obtain ⟨T', h', X', e', W, st⟩ := stI X hx hZ eT A hin hgm hs hd
  exact ⟨T', h', _, X', e', Nat.le_of_eq W.size.symm, O.st hg hK rfl W, Fr.snoc X' N (Nat.le_add_right _ _), st⟩
theorem stBW (X : Stand p l e R s m args below meth c T locs cells slots) (hx : p.tables.exec = Jvm.exec) (hZ : Z.Warmed39 s.vm) (eT : T.heap = h) (O : Ow K Z h n0 D) (N : Fr n0 locs) {j x : Int32} (hg : wV D a t j (.int x.toInt8.toInt32) = some D') (hK : (K t).1 = .array .byte)
    {g : JFrame} (hgm : g.method = m) {rest : List Value} (hs : g.stack = .int x :: .int j :: .ref (n0 + a) :: rest) (hd : decode c.code g.pc = .ok (.bastore, 1)) :
    ∃ T' h' L, Stand p l e R s m args below meth c T' L cells slots ∧ T'.heap = h' ∧ h.size ≤ h'.size ∧ Ow K Z h' n0 D' ∧ Fr n0 L ∧ ∀ target, Steps p.tables e below (T'.setTop { g with pc := g.pc + 1, stack := rest }) target → Steps p.tables e below (T.setTop g) target := by
  obtain ⟨cl, A, hin⟩ := O.arrW hg hK
  obtain ⟨T', h', X', e', W, st⟩ := stB X hx hZ eT A hin hgm hs hd
  exact ⟨T', h', _, X', e', Nat.le_of_eq W.size.symm, O.st hg hK (fits_nar_byte _) W, Fr.snoc X' N (Nat.le_add_right _ _), st⟩
theorem stJW (X : Stand p l e R s m args below meth c T locs cells slots) (hx : p.tables.exec = Jvm.exec) (hZ : Z.Warmed39 s.vm) (eT : T.heap = h) (O : Ow K Z h n0 D) (N : Fr n0 locs) {j : Int32} {x : Int64} (hg : wV D a t j (.long x) = some D') (hK : (K t).1 = .array .long)
    {g : JFrame} (hgm : g.method = m) {rest : List Value} (hs : g.stack = .long x :: .int j :: .ref (n0 + a) :: rest) (hd : decode c.code g.pc = .ok (.lastore, 1)) :
    ∃ T' h' L, Stand p l e R s m args below meth c T' L cells slots ∧ T'.heap = h' ∧ h.size ≤ h'.size ∧ Ow K Z h' n0 D' ∧ Fr n0 L ∧ ∀ target, Steps p.tables e below (T'.setTop { g with pc := g.pc + 1, stack := rest }) target → Steps p.tables e below (T.setTop g) target := by
  obtain ⟨cl, A, hin⟩ := O.arrW hg hK
  obtain ⟨T', h', X', e', W, st⟩ := stJ X hx hZ eT A hin hgm hs hd
  exact ⟨T', h', _, X', e', Nat.le_of_eq W.size.symm, O.st hg hK rfl W, Fr.snoc X' N (Nat.le_add_right _ _), st⟩
theorem putW (X : Stand p l e R s m args below meth c T locs cells slots) (hx : p.tables.exec = Jvm.exec) (hZ : Z.Warmed39 s.vm) {own C f d : String} {index kk i : Nat} {ty : FieldType} (hown : s.vm.findClass own = some m.cls) (w : (Cond.fieldLink own index C f d).before a0 Z = true) (hL : Lay K Z a0)
    (eT : T.heap = h) (O : Ow K Z h n0 D) (N : Fr n0 locs) {v : Value} (hg : pV D a t i v = some D') (hK : (K t).1 = .object C) (hf : (K t).2[i]? = some (f, d)) (L : (Cond.lays C C f d).before a0 Z = true ∨ ((Cond.laysFinal C C f d).before a0 Z = true ∧ own = C ∧ meth.name = "<init>")) (wi : (Cond.instantiable C kk).before a0 Z = true)
    (hty : parseFieldDescriptor d = some ty) (hn : narrow ty (sh n0 v) = sh n0 v) (hfit : fits ty (sh n0 v) = true) {g : JFrame} (hgm : g.method = m) {rest : List Value} (hs : g.stack = sh n0 v :: .ref (n0 + a) :: rest) (hd : decode c.code g.pc = .ok (.putfield index, 3)) :
    ∃ T' h' L, Stand p l e R s m args below meth c T' L cells slots ∧ T'.heap = h' ∧ h.size ≤ h'.size ∧ Ow K Z h' n0 D' ∧ Fr n0 L ∧ ∀ target, Steps p.tables e below (T'.setTop { g with pc := g.pc + 3, stack := rest }) target → Steps p.tables e below (T.setTop g) target := by
  obtain ⟨old, F⟩ := O.fld0 hg hK hf
  obtain ⟨T', h', X', e', W, st⟩ := putF X hx hZ hown (host := "") (Or.inl w) Via.refl eT F (O.exaP hg hK) L wi hty hn hfit hgm hs hd
  exact ⟨T', h', _, X', e', Nat.le_of_eq W.size.symm, O.put hL hg hK hf W, Fr.snoc X' N (Nat.le_add_right _ _), st⟩
theorem newW (X : Stand p l e R s m args below meth c T locs cells slots) (hx : p.tables.exec = Jvm.exec) (hZ : Z.Warmed39 s.vm) {own C : String} {index n : Nat} (hown : s.vm.findClass own = some m.cls) (w : (Cond.classLink own index C).before a0 Z = true) (wi : (Cond.instantiable C n).before a0 Z = true) (wz : (Cond.initialized C).before a0 Z = true) (hL : Lay K Z a0) (eT : T.heap = h) (O : Ow K Z h n0 D) {qm : Nat} (hnm : nm D = some qm)
    (hK : (K t).1 = .object C) {ds : List Value} (hds : ∀ q ∈ (K t).2.zipIdx, ∃ ty, parseFieldDescriptor q.1.2 = some ty ∧ ds[q.2]? = some (defaultValue ty)) {g : JFrame} (hg : g.method = m) (hd : decode c.code g.pc = .ok (.new index, 3)) (hc : cells + 1 ≤ R.cells) (hl : slots + n ≤ R.slots) :
    ∃ T' h', Stand p l e R s m args below meth c T' locs (cells + 1) (slots + n) ∧ T'.heap = h' ∧ h.size ≤ h'.size ∧ Ow K Z h' n0 (D ++ [(t, ds)]) ∧ ∀ target, Steps p.tables e below (T'.setTop { g with pc := g.pc + 3, stack := .ref (n0 + D.length) :: g.stack }) target → Steps p.tables e below (T.setTop g) target := by
  obtain ⟨vm', cC, kC, h1, h2, h3, h4, X', st⟩ := X.newCold hx hown (mv hZ w) (mv hZ wi) (mv hZ wz) hg hd hc hl
  subst eT
  rw [hZ.alike.findClass] at h1
  obtain ⟨kZ, z1, -⟩ := Vm.findClass_spec h1
  obtain ⟨k', z2, z3⟩ := hZ.alike.2.2 _ _ z1
  cases h2.symm.trans z2
  have ei : kC.instanceTypes = kZ.instanceTypes := by rw [z3]
  have hN : (T.heap.push { cls := cC, slots := kC.instanceTypes.map defaultValue, vm := .none })[T.heap.size]? = some { cls := cC, slots := kC.instanceTypes.map defaultValue, vm := .none } := by simp
  have E : Ext T.heap (T.heap.push { cls := cC, slots := kC.instanceTypes.map defaultValue, vm := .none }) := ⟨by simp, fun a c h => by
    rw [Array.getElem?_push_lt (Array.getElem?_eq_some_iff.mp h).1]; exact (Array.getElem?_eq_getElem _).symm.trans h⟩
  have hsz := O.1 (nm_e hnm)
  refine ⟨_, _, X', rfl, E.1, O.push (nm_e hnm) E (by simp) ⟨fun ty hK' => (by rw [hK] at hK'; cases hK'), fun C' hK' => ?_⟩, by rw [← hsz]; exact st⟩
  cases hK.symm.trans hK'
  rw [← hsz]
  refine ⟨⟨_, kZ, hN, h1, z1, rfl, fun _ => by simp [ei]⟩, fun i f d hi => ?_⟩
  obtain ⟨ty, t1, t2⟩ := hds ((f, d), i) (List.mem_zipIdx_iff_getElem?.mpr hi)
  refine ⟨_, t2, ?_⟩
  rw [sh_default]
  obtain ⟨c1, k1, cf, kf, i', f', a1, a2, a3, a4, a5, a6, -⟩ := ((hL t C hK).1 _ (List.mem_of_getElem? hi)).1.spec
  cases h1.symm.trans a1
  cases z1.symm.trans a2
  exact ⟨_, cf, kf, i', f', hN, a3, a4, by simp, rfl, a5, by simp [ei, a6, (State.fieldFound?_type a3 t1).2]⟩
theorem newAW (X : Stand p l e R s m args below meth c T locs cells slots) (hx : p.tables.exec = Jvm.exec) (hZ : Z.Warmed39 s.vm) {aty : ArrayType} (w : (Cond.arrayClass (newarray.typeOf aty)).before a0 Z = true) (eT : T.heap = h) (O : Ow K Z h n0 D) {qm : Nat} (hnm : nm D = some qm) (hK : (K t).1 = .array (newarray.typeOf aty))
    {n : Int32} {cap : Nat} {z : Value} (hz : z = defaultValue (newarray.typeOf aty)) (hn : nA D t n cap z = some D') {g : JFrame} (hg : g.method = m) (hd : decode c.code g.pc = .ok (.newarray aty, 2)) {rest : List Value} (hs : g.stack = .int n :: rest)
    (hb : cap * 8 ≤ 536870912) (hc : cells + 1 ≤ R.cells) (hl : slots + cap ≤ R.slots) :
    ∃ T' h', Stand p l e R s m args below meth c T' locs (cells + 1) (slots + cap) ∧ T'.heap = h' ∧ h.size ≤ h'.size ∧ Ow K Z h' n0 D' ∧ ∀ target, Steps p.tables e below (T'.setTop { g with pc := g.pc + 2, stack := .ref (n0 + D.length) :: rest }) target → Steps p.tables e below (T.setTop g) target := by
  have hcb : componentBytes (newarray.typeOf aty) ≤ 8 := by cases aty <;> decide
  by_cases q : n < 0
  · simp only [nA, if_pos q] at hn; cases hn
  simp only [nA, if_neg q] at hn
  by_cases hcap : n.toNatClampNeg ≤ cap
  · rw [if_pos hcap] at hn
    cases hn
    obtain ⟨cA, kA, comp, h1, h2, h3, X', st⟩ := X.newarrayPrim hx (mvA hZ w) hg hd hs q (Nat.le_trans (Nat.mul_le_mul hcap hcb) hb) hc (by omega)
    subst eT
    rw [hZ.alike.findClass] at h1
    obtain ⟨kZ, z1, -⟩ := Vm.findClass_spec h1
    obtain ⟨k', z2, z3⟩ := hZ.alike.2.2 _ _ z1
    cases h2.symm.trans z2
    have hsz := O.1 (nm_e hnm)
    refine ⟨_, _, X'.more (Nat.le_refl _) (by omega), rfl, by simp, O.push (h' := T.heap.push _) (nm_e hnm) ⟨by simp, fun a c h => ?_⟩ (by simp) ⟨fun ty hK' => ?_, fun C hK' => by rw [hK] at hK'; cases hK'⟩, by rw [← hsz]; exact st⟩
    · rw [Array.getElem?_push_lt (Array.getElem?_eq_some_iff.mp h).1]; exact (Array.getElem?_eq_getElem _).symm.trans h
    · cases hK.symm.trans hK'
      rw [← hsz]
      have ek : kZ.kind = .array comp (newarray.typeOf aty) := by rw [← h3, z3]
      refine ⟨⟨_, kZ, Array.getElem?_push_size, h1, z1, rfl, fun q => by rw [ek] at q; cases q⟩, _, ⟨Array.getElem?_push_size, ⟨by simp, kZ, z1, comp, ek⟩, by simp⟩, ?_, ?_, fun v hv => ?_⟩
      · rw [hz, List.map_replicate, sh_default]; simp
      · rw [List.length_replicate]; exact (back32 q).2
      · rw [(List.mem_replicate.mp hv).2, hz]; cases aty <;> rfl
  · rw [if_neg hcap] at hn; cases hn
/-! 4. contracts and calls -/
def Qw (K : Kt) (Z : State) (n0 : Nat) (r : Option Value) (D' : Hp) : Option Value → Heap → List Loc → Prop := fun v h L => v = r ∧ Fr n0 L ∧ Ow K Z h n0 D'
def Qz (K : Kt) (Z : State) (n0 : Nat) (r : Option Value) (D' : Hp) (h0 : Heap) : Option Value → Heap → List Loc → Prop := fun v h L => Qw K Z n0 r D' v h L ∧ h0.size ≤ h.size
def Ct (K : Kt) (l : Launch) (Z : State) (y : MethodName) (cw : Jvm.Cond) (rm : Room) (n0 : Nat) (D : Hp) (as' : Array Value) (r : Option Value) (D' : Hp) : Prop :=
  ∀ (h0 : Heap) (ws : List Jvm.Cond), Ow K Z h0 n0 D → MetFree l y (head1 (cw :: ws) rm) (fun a U => a = as' ∧ Z.Warmed39 U.vm ∧ U.heap = h0) (fun _ _ _ _ _ => True) (fun _ U o U' => ∃ v L, o = .returned v ∧ Qz K Z n0 r D' h0 v U'.heap L ∧ FrameEnd U o U' L rm.cells rm.slots)
/-- what stands still through a body -/
def Cx (p : Program) (s : State) (m : MethodId) (meth : Method) (c : Code) (Z : State) (bytes : ByteArray) (maxL : Nat) (ret : Option FieldType) (own nm : String) : Prop :=
  p.tables.exec = Jvm.exec ∧ Z.Warmed39 s.vm ∧ c.code = bytes ∧ c.maxLocals = maxL ∧ s.vm.findClass own = some m.cls ∧ meth.name = nm ∧ meth.sig.returnType = ret ∧ meth.locks = false
variable {y : MethodName} {bytes : ByteArray} {maxL : Nat} {ret : Option FieldType} {rm : Room} {r : Option Value}
theorem Ct.of {as' : Array Value} (hpl : plainFor y = true) (body : ∀ (p : Program) (e : Env) (s : State) (m : MethodId) (below : List Frame) (meth : Method) (c : Code) (s₁ : State) (h0 : Heap), Cx p s m meth c Z bytes maxL ret y.cls y.name → Stand p l e rm s m as' below meth c s₁ [] 0 0 → s₁.heap = h0 → Ow K Z h0 n0 D →
      Gl p e below s rm.cells rm.slots (Qw K Z n0 r D') (s₁.setTop (entryFrame m as' maxL))) : Ct K l Z y (.code y bytes maxL ret) rm n0 D as' r D' := by
  intro h0 ws O
  refine MetFree.of_bodySF hpl hisR ?_
  intro p e s m args below meth c s₁ Bd hml0 hP hK
  obtain ⟨rfl, hZ, hh⟩ := hP
  obtain ⟨t, o, g1, g2, g3, v, L, g4, g5, g6⟩ := body p e s m below meth c s₁ h0 ⟨Bd.exec, hZ, Bd.bytes, hml0, findClass_of_methodNamed Bd.named, (name_of_methodNamed Bd.named Bd.method).1, Bd.returns, BodyLoose.notSynchronized Bd⟩ (Stand.of_body Bd) (by rw [← hh, Bd.state]; rfl) O
  exact ⟨t, o, g1, g2, g3, v, L, g4, ⟨g5, by rw [← hh]; exact g6.2.2.2.1⟩, g6⟩
theorem Ct.ofH {as' : Array Value} {hs : List (Nat × Nat × Nat × Nat)} (hpl : plainFor y = true) (body : ∀ (p : Program) (e : Env) (s : State) (m : MethodId) (below : List Frame) (meth : Method) (c : Code) (s₁ : State) (h0 : Heap), Cx p s m meth c Z bytes maxL ret y.cls y.name → Stand p l e rm s m as' below meth c s₁ [] 0 0 → s₁.heap = h0 → Ow K Z h0 n0 D →
      Gl p e below s rm.cells rm.slots (Qw K Z n0 r D') (s₁.setTop (entryFrame m as' maxL))) : Ct K l Z y (.codeWith y bytes maxL ret hs) rm n0 D as' r D' := by
  intro h0 ws O
  refine MetFree.of_bodySF hpl hisWith ?_
  intro p e s m args below meth c s₁ Bd hml0 hP hK
  obtain ⟨rfl, hZ, hh⟩ := hP
  obtain ⟨t, o, g1, g2, g3, v, L, g4, g5, g6⟩ := body p e s m below meth c s₁ h0 ⟨Bd.exec, hZ, Bd.bytes, hml0, findClass_of_methodNamed Bd.named, (name_of_methodNamed Bd.named Bd.method).1, Bd.returns, BodyLoose.notSynchronized Bd⟩ (Stand.of_body Bd) (by rw [← hh, Bd.state]; rfl) O
  exact ⟨t, o, g1, g2, g3, v, L, g4, ⟨g5, by rw [← hh]; exact g6.2.2.2.1⟩, g6⟩
theorem callSW (X : Stand p l e R s m args below meth c T locs cells slots) (hx : p.tables.exec = Jvm.exec) (hZ : Z.Warmed39 s.vm) {own : String} {index : Nat} (hown : s.vm.findClass own = some m.cls) (w1 : (Cond.methodLink own index y).before a0 Z = true) (w2 : (Cond.static y).before a0 Z = true) (w3 : (Cond.initialized y.cls).before a0 Z = true) (w4 : (Cond.code y bytes maxL ret).before a0 Z = true)
    (hy : y.cls ≠ "java/lang/invoke/MethodHandle" ∧ y.cls ≠ "java/lang/invoke/VarHandle") (eT : T.heap = h) (O : Ow K Z h n0 D) (N : Fr n0 locs) {as' : List Value} (hM : Ct K l Z y (.code y bytes maxL ret) rm n0 D as'.toArray r D') {W kc ks : Nat} (hkc : rm.cells = kc) (hks : rm.slots = ks) (hf : rm.frames + 1 ≤ R.frames) (hl : W + (maxL + 11) + rm.locals ≤ R.locals)
    {g : JFrame} (hg : g.method = m) (hsize : g.locals.size = c.maxLocals) {rest : List Value} (hlen : ∀ sig, parseMethodDescriptor y.desc = some sig → as'.length = sig.parameters.length) (hs : g.stack = as'.reverse ++ rest) (hW : 2 * g.monitorRoom + (rest.map fun v => v.category).sum ≤ W) (hd : decode c.code g.pc = .ok (.invokestatic index, 3)) (hc : cells + kc ≤ R.cells) (hsl : slots + ks ≤ R.slots) :
    ∃ T' h' L, Stand p l e R s m args below meth c T' L (cells + kc) (slots + ks) ∧ T'.heap = h' ∧ h.size ≤ h'.size ∧ Ow K Z h' n0 D' ∧ Fr n0 L ∧ ∀ target, Steps p.tables e below (T'.setTop { g with pc := g.pc + 3, stack := r.toList ++ rest }) target → Steps p.tables e below (T.setTop g) target := by
  subst hkc hks
  obtain ⟨_, _, ⟨T', L', k', n'⟩, -, X', ⟨Lc, hQ, hL, hk, hn⟩, st⟩ := Jvm.LawKit.callS X hx hown (mvT hZ w1) (mvT hZ w2) (mvT hZ w3) (mvT hZ w4) hy (backOf (W := W) (hM h [] O) hZ w4 w3 hf hl) hg hsize (argsL := as') hlen hs hW hd (fun _ _ => ⟨rfl, eT, hc, hsl⟩)
  dsimp only [Pt.U, Pt.locs, Pt.cells, Pt.slots] at X' hL hk hn st hQ
  subst hL hk hn
  obtain ⟨⟨rfl, N', O'⟩, hz⟩ := hQ
  exact ⟨T', _, _, X', rfl, hz, O', N.app N', st⟩
theorem callSHW (X : Stand p l e R s m args below meth c T locs cells slots) (hx : p.tables.exec = Jvm.exec) (hZ : Z.Warmed39 s.vm) {own : String} {index : Nat} {hs' : List (Nat × Nat × Nat × Nat)} (hown : s.vm.findClass own = some m.cls) (w1 : (Cond.methodLink own index y).before a0 Z = true) (w2 : (Cond.static y).before a0 Z = true) (w3 : (Cond.initialized y.cls).before a0 Z = true) (w4 : (Cond.codeWith y bytes maxL ret hs').before a0 Z = true)
    (hy : y.cls ≠ "java/lang/invoke/MethodHandle" ∧ y.cls ≠ "java/lang/invoke/VarHandle") (eT : T.heap = h) (O : Ow K Z h n0 D) (N : Fr n0 locs) {as' : List Value} (hM : Ct K l Z y (.codeWith y bytes maxL ret hs') rm n0 D as'.toArray r D') {W kc ks : Nat} (hkc : rm.cells = kc) (hks : rm.slots = ks) (hf : rm.frames + 1 ≤ R.frames) (hl : W + (maxL + 11) + rm.locals ≤ R.locals)
    {g : JFrame} (hg : g.method = m) (hsize : g.locals.size = c.maxLocals) {rest : List Value} (hlen : ∀ sig, parseMethodDescriptor y.desc = some sig → as'.length = sig.parameters.length) (hs : g.stack = as'.reverse ++ rest) (hW : 2 * g.monitorRoom + (rest.map fun v => v.category).sum ≤ W) (hd : decode c.code g.pc = .ok (.invokestatic index, 3)) (hc : cells + kc ≤ R.cells) (hsl : slots + ks ≤ R.slots) :
    ∃ T' h' L, Stand p l e R s m args below meth c T' L (cells + kc) (slots + ks) ∧ T'.heap = h' ∧ h.size ≤ h'.size ∧ Ow K Z h' n0 D' ∧ Fr n0 L ∧ ∀ target, Steps p.tables e below (T'.setTop { g with pc := g.pc + 3, stack := r.toList ++ rest }) target → Steps p.tables e below (T.setTop g) target := by
  subst hkc hks
  obtain ⟨_, _, ⟨T', L', k', n'⟩, -, X', ⟨Lc, hQ, hL, hk, hn⟩, st⟩ := callSH X hx hown (mvT hZ w1) (mvT hZ w2) (mvT hZ w3) (mvT hZ w4) hy (backOfWith (W := W) (hM h [] O) hZ w4 w3 hf hl) hg hsize (argsL := as') hlen hs hW hd (fun _ _ => ⟨rfl, eT, hc, hsl⟩)
  dsimp only [Pt.U, Pt.locs, Pt.cells, Pt.slots] at X' hL hk hn st hQ
  subst hL hk hn
  obtain ⟨⟨rfl, N', O'⟩, hz⟩ := hQ
  exact ⟨T', _, _, X', rfl, hz, O', N.app N', st⟩
theorem callIW (X : Stand p l e R s m args below meth c T locs cells slots) (hx : p.tables.exec = Jvm.exec) (hZ : Z.Warmed39 s.vm) {own : String} {index : Nat} (hy1 : y.name = "<init>") (hown : s.vm.findClass own = some m.cls) (w1 : (Cond.methodLink own index y).before a0 Z = true) (w2 : (Cond.instanceMethod y).before a0 Z = true) (w3 : (Cond.initialized y.cls).before a0 Z = true) (w4 : (Cond.code y bytes maxL none).before a0 Z = true)
    (hy : y.cls ≠ "java/lang/invoke/MethodHandle" ∧ y.cls ≠ "java/lang/invoke/VarHandle") (eT : T.heap = h) (O : Ow K Z h n0 D) (N : Fr n0 locs) {as' : List Value} (hM : Ct K l Z y (.code y bytes maxL none) rm n0 D (.ref (n0 + a) :: as').toArray r D') {W kc ks : Nat} (hkc : rm.cells = kc) (hks : rm.slots = ks) (hf : rm.frames + 1 ≤ R.frames) (hl : W + (maxL + 11) + rm.locals ≤ R.locals)
    {g : JFrame} (hg : g.method = m) (hsize : g.locals.size = c.maxLocals) {rest : List Value} (hlen : ∀ sig, parseMethodDescriptor y.desc = some sig → as'.length = sig.parameters.length) (hs : g.stack = as'.reverse ++ .ref (n0 + a) :: rest) (hW : 2 * g.monitorRoom + (rest.map fun v => v.category).sum ≤ W) (hd : decode c.code g.pc = .ok (.invokespecial index, 3)) (hc : cells + kc ≤ R.cells) (hsl : slots + ks ≤ R.slots) :
    ∃ T' h' L, Stand p l e R s m args below meth c T' L (cells + kc) (slots + ks) ∧ T'.heap = h' ∧ h.size ≤ h'.size ∧ Ow K Z h' n0 D' ∧ Fr n0 L ∧ ∀ target, Steps p.tables e below (T'.setTop { g with pc := g.pc + 3, stack := r.toList ++ rest }) target → Steps p.tables e below (T.setTop g) target := by
  subst hkc hks
  obtain ⟨_, _, ⟨T', L', k', n'⟩, -, X', ⟨Lc, hQ, hL, hk, hn⟩, st⟩ := Jvm.LawKit.callI X hx hown hy1 (mvT hZ w1) (mvT hZ w2) (mvT hZ w4) hy (backOf (W := W) (hM h [] O) hZ w4 w3 hf hl) hg hsize (argsL := as') hlen hs hW hd (fun _ _ => ⟨rfl, eT, hc, hsl⟩)
  dsimp only [Pt.U, Pt.locs, Pt.cells, Pt.slots] at X' hL hk hn st hQ
  subst hL hk hn
  obtain ⟨⟨rfl, N', O'⟩, hz⟩ := hQ
  exact ⟨T', _, _, X', rfl, hz, O', N.app N', st⟩
theorem callVW (X : Stand p l e R s m args below meth c T locs cells slots) (hx : p.tables.exec = Jvm.exec) (hZ : Z.Warmed39 s.vm) {own C : String} {index : Nat} (hown : s.vm.findClass own = some m.cls) (w1 : (Cond.methodLink own index y).before a0 Z = true) (w2 : (Cond.declares y).before a0 Z = true) (w5 : (Cond.selects C y y).before a0 Z = true) (w6 : (Cond.instanceMethod y).before a0 Z = true) (w3 : (Cond.initialized y.cls).before a0 Z = true) (w4 : (Cond.code y bytes maxL ret).before a0 Z = true)
    (hy : y.cls ≠ "java/lang/invoke/MethodHandle" ∧ y.cls ≠ "java/lang/invoke/VarHandle") (eT : T.heap = h) (O : Ow K Z h n0 D) (N : Fr n0 locs) {q : Nat} (hck : ck D a t = some q) (hK : (K t).1 = .object C) {as' : List Value} (hM : Ct K l Z y (.code y bytes maxL ret) rm n0 D (.ref (n0 + a) :: as').toArray r D') {W kc ks : Nat} (hkc : rm.cells = kc) (hks : rm.slots = ks) (hf : rm.frames + 1 ≤ R.frames) (hl : W + (maxL + 11) + rm.locals ≤ R.locals)
    {g : JFrame} (hg : g.method = m) (hsize : g.locals.size = c.maxLocals) {rest : List Value} (hlen : ∀ sig, parseMethodDescriptor y.desc = some sig → as'.length = sig.parameters.length) (hs : g.stack = as'.reverse ++ .ref (n0 + a) :: rest) (hW : 2 * g.monitorRoom + (rest.map fun v => v.category).sum ≤ W) (hd : decode c.code g.pc = .ok (.invokevirtual index, 3)) (hc : cells + kc ≤ R.cells) (hsl : slots + ks ≤ R.slots) :
    ∃ T' h' L, Stand p l e R s m args below meth c T' L (cells + kc) (slots + ks) ∧ T'.heap = h' ∧ h.size ≤ h'.size ∧ Ow K Z h' n0 D' ∧ Fr n0 L ∧ ∀ target, Steps p.tables e below (T'.setTop { g with pc := g.pc + 3, stack := r.toList ++ rest }) target → Steps p.tables e below (T.setTop g) target := by
  subst hkc hks
  obtain ⟨cq, kq, qa, qb, qc⟩ := isOf hZ eT (O.exaC hck hK)
  obtain ⟨_, _, ⟨T', L', k', n'⟩, -, X', ⟨Lc, hQ, hL, hk, hn⟩, st⟩ := X.virtualBack hx (y := y) (z := y) hown (mvT hZ w1) (mvT hZ w2) (notFace_of_selects (args := #[]) (mvT hZ w5)) (mvT hZ w5) (mvT hZ w6) hy (backOf (W := W) (hM h [] O) hZ w4 w3 hf hl) qa qc hg hsize (Steps.refl _) (argsL := as') hlen hs hW hd (fun _ _ => ⟨rfl, eT, hc, hsl⟩)
  dsimp only [Pt.U, Pt.locs, Pt.cells, Pt.slots] at X' hL hk hn st hQ
  subst hL hk hn
  obtain ⟨⟨rfl, N', O'⟩, hz⟩ := hQ
  exact ⟨T', _, _, X', rfl, hz, O', N.app N', fun target k => st.trans k⟩
theorem callPW (X : Stand p l e R s m args below meth c T locs cells slots) (hx : p.tables.exec = Jvm.exec) (hZ : Z.Warmed39 s.vm) {own C : String} {index nk : Nat} (hown : s.vm.findClass own = some m.cls) (w1 : (Cond.methodLink own index y).before a0 Z = true) (w2 : (Cond.privateMethod y).before a0 Z = true) (w5 : (Cond.instantiable y.cls nk).before a0 Z = true) (w6 : (Cond.instanceMethod y).before a0 Z = true) (w3 : (Cond.initialized y.cls).before a0 Z = true) (w4 : (Cond.code y bytes maxL ret).before a0 Z = true)
    (hy : y.cls ≠ "java/lang/invoke/MethodHandle" ∧ y.cls ≠ "java/lang/invoke/VarHandle") (eT : T.heap = h) (O : Ow K Z h n0 D) (N : Fr n0 locs) {q : Nat} (hck : ck D a t = some q) (hK : (K t).1 = .object C) {as' : List Value} (hM : Ct K l Z y (.code y bytes maxL ret) rm n0 D (.ref (n0 + a) :: as').toArray r D') {W kc ks : Nat} (hkc : rm.cells = kc) (hks : rm.slots = ks) (hf : rm.frames + 1 ≤ R.frames) (hl : W + (maxL + 11) + rm.locals ≤ R.locals)
    {g : JFrame} (hg : g.method = m) (hsize : g.locals.size = c.maxLocals) {rest : List Value} (hlen : ∀ sig, parseMethodDescriptor y.desc = some sig → as'.length = sig.parameters.length) (hs : g.stack = as'.reverse ++ .ref (n0 + a) :: rest) (hW : 2 * g.monitorRoom + (rest.map fun v => v.category).sum ≤ W) (hd : decode c.code g.pc = .ok (.invokevirtual index, 3)) (hc : cells + kc ≤ R.cells) (hsl : slots + ks ≤ R.slots) :
    ∃ T' h' L, Stand p l e R s m args below meth c T' L (cells + kc) (slots + ks) ∧ T'.heap = h' ∧ h.size ≤ h'.size ∧ Ow K Z h' n0 D' ∧ Fr n0 L ∧ ∀ target, Steps p.tables e below (T'.setTop { g with pc := g.pc + 3, stack := r.toList ++ rest }) target → Steps p.tables e below (T.setTop g) target := by
  subst hkc hks
  obtain ⟨cC, kC, i1, i2, -, i4, -, -⟩ := Cond.instantiable_spec (mvT (args := args) hZ w5)
  have hpr := Cond.privateMethod_at (mvP (args := args) hZ w2)
  have hsel := selects_self_of_private i1 i2 (Bool.or_eq_false_iff.mp i4).1 hpr (mvT (args := args) hZ w6) hy
  obtain ⟨cq, qa, qb⟩ := (O.exaC hck hK).cell
  obtain ⟨_, _, ⟨T', L', k', n'⟩, -, X', ⟨Lc, hQ, hL, hk, hn⟩, st⟩ := X.privateBack hx (y := y) hown (mvT hZ w1) (mvT hZ w6) hsel hpr (mvT hZ w4) hy (backOf (W := W) (hM h [] O) hZ w4 w3 hf hl) hg hsize (Steps.refl _) (by rw [eT]; exact qa) qb (argsL := as') hlen hs hW hd (fun _ _ => ⟨rfl, eT, hc, hsl⟩)
  dsimp only [Pt.U, Pt.locs, Pt.cells, Pt.slots] at X' hL hk hn st hQ
  subst hL hk hn
  obtain ⟨⟨rfl, N', O'⟩, hz⟩ := hQ
  exact ⟨T', _, _, X', rfl, hz, O', N.app N', fun target k => st.trans k⟩
theorem cloneW (X : Stand p l e R s m args below meth c T locs cells slots) (hx : p.tables.exec = Jvm.exec) (hZ : Z.Warmed39 s.vm) {own ad : String} {index : Nat} {ty : FieldType} (hown : s.vm.findClass own = some m.cls) (had : ad = "[" ++ ty.toString)
    (w1 : (Cond.methodLink own index ⟨ad, "clone", "()Ljava/lang/Object;"⟩).before a0 Z = true) (w2 : (Cond.sameMethod ad "java/lang/Object" "clone" "()Ljava/lang/Object;").before a0 Z = true) (w3 : (Cond.native ⟨"java/lang/Object", "clone", "()Ljava/lang/Object;"⟩).before a0 Z = true)
    (w4 : (Cond.instanceMethod ⟨"java/lang/Object", "clone", "()Ljava/lang/Object;"⟩).before a0 Z = true) (w5 : (Cond.selects ad ⟨ad, "clone", "()Ljava/lang/Object;"⟩ ⟨"java/lang/Object", "clone", "()Ljava/lang/Object;"⟩).before a0 Z = true) (w6 : (Cond.castable ad "java/lang/Cloneable").before a0 Z = true)
    (eT : T.heap = h) (O : Ow K Z h n0 D) {qm : Nat} (hnm : nm D = some qm) (hK : (K t).1 = .array ty) {cap : Nat} (hq : cA' D a t cap = some D') {g : JFrame} (hg : g.method = m) (hsize : g.locals.size = c.maxLocals) {rest : List Value} (hs : g.stack = .ref (n0 + a) :: rest) (hd : decode c.code g.pc = .ok (.invokevirtual index, 3))
    (hf : 1 ≤ R.frames) {W : Nat} (hW : 2 * g.monitorRoom + (rest.map fun v => v.category).sum ≤ W) (hl : W + 14 ≤ R.locals) (hc : cells + 1 ≤ R.cells) (hsl : slots + cap ≤ R.slots) :
    ∃ T' h', Stand p l e R s m args below meth c T' locs (cells + 1) (slots + cap) ∧ T'.heap = h' ∧ h.size ≤ h'.size ∧ Ow K Z h' n0 D' ∧ ∀ target, Steps p.tables e below (T'.setTop { g with pc := g.pc + 3, stack := .ref (n0 + D.length) :: rest }) target → Steps p.tables e below (T.setTop g) target := by
  obtain ⟨vs, h1, h2, rfl⟩ := cA_e hq
  obtain ⟨E, cl, A, hsl', hlen, hfit⟩ := (O.2 a t vs h1).1 ty hK
  rw [← had] at E
  obtain ⟨c2, k, e1, e2, e3, e4, e5⟩ := E
  cases A.1.symm.trans e1
  obtain ⟨c1, cC, g1, g2, g3⟩ := Cond.castable_spec w6
  cases e2.symm.trans g1
  have hal : Z.vm.Alike T.vm := hZ.alike.trans X.warmed.alike
  have hsz : cl.slots.size = vs.length := by rw [hsl', sh_len]
  have hfc : ∀ i v, cl.slots[i]? = some v → Z.fitsSlot cl.cls .none i v = true := fun i v hv => by
    obtain ⟨-, k2, hk2, comp, hkind⟩ := A.2.1
    have e : Z.slotType? cl.cls .none i = some ty := by simp [State.slotType?, hk2, hkind]
    have hv' : ∃ w ∈ vs, sh n0 w = v := by
      rw [hsl'] at hv
      have hm : v ∈ vs.map (sh n0) := by
        have := Array.mem_of_getElem? hv
        simpa using this
      exact List.mem_map.mp hm
    obtain ⟨w, hw, rfl⟩ := hv'
    have hfw : fits ty (sh n0 w) = true := by
      have := hfit w hw
      cases w <;> first | exact this | (cases ty <;> first | (cases this; done) | rfl)
    simpa [State.fitsSlot, e] using hfw
  obtain ⟨vm', X', st⟩ := X.cloneArray hx hown (mv hZ w1) (mv hZ w2) (mv hZ w3) (mv hZ w4) (mv hZ w5) (a := n0 + a) (by rw [eT]; exact A.1) A.2.1.1 A.2.2 (by rw [hZ.alike.findClass]; exact e2) (by rw [hZ.alike.findClass]; exact g2) (by rw [hZ.alike.assignable]; exact g3)
    (fun i v hv => by have q := hfc i v hv; rw [← State.fitsSlot_setVm hal] at q; exact q) hg hsize hs hd hf (by omega) hc (by omega)
    (by obtain ⟨-, k2, hk2, comp, hkind⟩ := A.2.1; rw [hZ.alike.clonesLoader]; exact Vm.clonesLoader_of_array hk2 hkind)
  subst eT
  have hs0 := O.1 (nm_e hnm)
  refine ⟨_, _, X'.more (Nat.le_refl _) (by omega), rfl, by simp, O.push (h' := T.heap.push _) (nm_e hnm) ⟨by simp, fun a c h => ?_⟩ (by simp) ⟨fun ty' hK' => ?_, fun C hK' => by rw [hK] at hK'; cases hK'⟩, by rw [← hs0]; exact st⟩
  · rw [Array.getElem?_push_lt (Array.getElem?_eq_some_iff.mp h).1]; exact (Array.getElem?_eq_getElem _).symm.trans h
  · cases hK.symm.trans hK'
    rw [← hs0, ← had]
    exact ⟨⟨_, k, Array.getElem?_push_size, e2, e3, rfl, e5⟩, _, ⟨Array.getElem?_push_size, ⟨fun _ z => (by cases z), A.2.1.2⟩, fun z => (by cases z)⟩, hsl', hlen, hfit⟩
theorem castW (X : Stand p l e R s m args below meth c T locs cells slots) (hx : p.tables.exec = Jvm.exec) (hZ : Z.Warmed39 s.vm) {own ad : String} {index : Nat} {ty : FieldType} (hown : s.vm.findClass own = some m.cls) (w : (Cond.classLink own index ad).before a0 Z = true) (had : ad = "[" ++ ty.toString) (eT : T.heap = h) (O : Ow K Z h n0 D) {q : Nat} (hck : ck D a t = some q) (hK : (K t).1 = .array ty)
    {g : JFrame} (hg : g.method = m) {rest : List Value} (hs : g.stack = .ref (n0 + a) :: rest) (hd : decode c.code g.pc = .ok (.checkcast index, 3)) : ∃ T', Stand p l e R s m args below meth c T' locs cells slots ∧ T'.heap = h ∧ ∀ target, Steps p.tables e below (T'.setTop { g with pc := g.pc + 3 }) target → Steps p.tables e below (T.setTop g) target := by
  obtain ⟨vs, h1⟩ := ck_e hck
  obtain ⟨E, -⟩ := (O.2 a t vs h1).1 ty hK
  rw [← had] at E
  exact castY X hx hZ hown w eT (Ins.self E) hg hs hd
theorem cloneU (X : Stand p l e R s m args below meth c T locs cells slots) (hx : p.tables.exec = Jvm.exec) (hZ : Z.Warmed39 s.vm) {own ad : String} {index : Nat} {ty : FieldType} (hown : s.vm.findClass own = some m.cls) (had : ad = "[" ++ ty.toString)
    (w1 : (Cond.methodLink own index ⟨ad, "clone", "()Ljava/lang/Object;"⟩).before a0 Z = true) (w2 : (Cond.sameMethod ad "java/lang/Object" "clone" "()Ljava/lang/Object;").before a0 Z = true) (w3 : (Cond.native ⟨"java/lang/Object", "clone", "()Ljava/lang/Object;"⟩).before a0 Z = true)
    (w4 : (Cond.instanceMethod ⟨"java/lang/Object", "clone", "()Ljava/lang/Object;"⟩).before a0 Z = true) (w5 : (Cond.selects ad ⟨ad, "clone", "()Ljava/lang/Object;"⟩ ⟨"java/lang/Object", "clone", "()Ljava/lang/Object;"⟩).before a0 Z = true) (w6 : (Cond.castable ad "java/lang/Cloneable").before a0 Z = true)
    (eT : T.heap = h) (O : Ow K Z h n0 D) (h98 : (K 98).1 = .int) (hK : (K t).1 = .array ty) {cap qq : Nat} (hq : cL D a t cap = some qq) {g : JFrame} (hg : g.method = m) (hsize : g.locals.size = c.maxLocals) {rest : List Value} (hs : g.stack = .ref (n0 + a) :: rest) (hd : decode c.code g.pc = .ok (.invokevirtual index, 3))
    (hf : 1 ≤ R.frames) {W : Nat} (hW : 2 * g.monitorRoom + (rest.map fun v => v.category).sum ≤ W) (hl : W + 14 ≤ R.locals) (hc : cells + 1 ≤ R.cells) (hsl : slots + cap ≤ R.slots) :
    ∃ T' h' sa, Stand p l e R s m args below meth c T' locs (cells + 1) (slots + cap) ∧ T'.heap = h' ∧ h.size ≤ h'.size ∧ Ow K Z h' n0 (D ++ [(98, [])]) ∧ Exa Z h' sa ad ∧ ∀ target, Steps p.tables e below (T'.setTop { g with pc := g.pc + 3, stack := .ref sa :: rest }) target → Steps p.tables e below (T.setTop g) target := by
  obtain ⟨vs, h1, h2⟩ := cL_e hq
  obtain ⟨E, cl, A, hsl', hlen, hfit⟩ := (O.2 a t vs h1).1 ty hK
  rw [← had] at E
  obtain ⟨c2, k, e1, e2, e3, e4, e5⟩ := E
  cases A.1.symm.trans e1
  obtain ⟨c1, cC, g1, g2, g3⟩ := Cond.castable_spec w6
  cases e2.symm.trans g1
  have hal : Z.vm.Alike T.vm := hZ.alike.trans X.warmed.alike
  have hsz : cl.slots.size = vs.length := by rw [hsl', sh_len]
  have hfc : ∀ i v, cl.slots[i]? = some v → Z.fitsSlot cl.cls .none i v = true := fun i v hv => by
    obtain ⟨-, k2, hk2, comp, hkind⟩ := A.2.1
    have e : Z.slotType? cl.cls .none i = some ty := by simp [State.slotType?, hk2, hkind]
    have hv' : ∃ w ∈ vs, sh n0 w = v := by
      rw [hsl'] at hv
      have hm : v ∈ vs.map (sh n0) := by
        have := Array.mem_of_getElem? hv
        simpa using this
      exact List.mem_map.mp hm
    obtain ⟨w, hw, rfl⟩ := hv'
    have hfw : fits ty (sh n0 w) = true := by
      have := hfit w hw
      cases w <;> first | exact this | (cases ty <;> first | (cases this; done) | rfl)
    simpa [State.fitsSlot, e] using hfw
  obtain ⟨vm', X', st⟩ := X.cloneArray hx hown (mv hZ w1) (mv hZ w2) (mv hZ w3) (mv hZ w4) (mv hZ w5) (a := n0 + a) (by rw [eT]; exact A.1) A.2.1.1 A.2.2 (by rw [hZ.alike.findClass]; exact e2) (by rw [hZ.alike.findClass]; exact g2) (by rw [hZ.alike.assignable]; exact g3)
    (fun i v hv => by have q := hfc i v hv; rw [← State.fitsSlot_setVm hal] at q; exact q) hg hsize hs hd hf (by omega) hc (by omega)
    (by obtain ⟨-, k2, hk2, comp, hkind⟩ := A.2.1; rw [hZ.alike.clonesLoader]; exact Vm.clonesLoader_of_array hk2 hkind)
  subst eT
  have E0 : Ext T.heap (T.heap.push { cls := cl.cls, slots := cl.slots, vm := .none }) := ⟨by simp, fun a c h => by
    rw [Array.getElem?_push_lt (Array.getElem?_eq_some_iff.mp h).1]; exact (Array.getElem?_eq_getElem _).symm.trans h⟩
  exact ⟨_, T.heap.push { cls := cl.cls, slots := cl.slots, vm := .none }, T.heap.size, X'.more (Nat.le_refl _) (by omega), rfl, E0.1, O.mark E0 h98, ⟨_, k, Array.getElem?_push_size, e2, e3, rfl, e5⟩, st⟩
theorem putU (X : Stand p l e R s m args below meth c T locs cells slots) (hx : p.tables.exec = Jvm.exec) (hZ : Z.Warmed39 s.vm) {own C f d f1 d1 : String} {index kk : Nat} {ty : FieldType} (hown : s.vm.findClass own = some m.cls) (w : (Cond.fieldLink own index C f d).before a0 Z = true) (hL : Lay K Z a0)
    (eT : T.heap = h) (O : Ow K Z h n0 D) (N : Fr n0 locs) {q : Nat} (hck : ck D a t = some q) (hK : (K t).1 = .object C) (hf1 : (K t).2[0]? = some (f1, d1)) (hne : ∀ z ∈ (K t).2, z.1 ≠ f) (L : (Cond.lays C C f d).before a0 Z = true ∨ ((Cond.laysFinal C C f d).before a0 Z = true ∧ own = C ∧ meth.name = "<init>")) (wi : (Cond.instantiable C kk).before a0 Z = true)
    (hty : parseFieldDescriptor d = some ty) {v v' : Value} (hn : narrow ty v = v') (hfit : fits ty v' = true) {g : JFrame} (hgm : g.method = m) {rest : List Value} (hs : g.stack = v :: .ref (n0 + a) :: rest) (hd : decode c.code g.pc = .ok (.putfield index, 3)) :
    ∃ T' h' L, Stand p l e R s m args below meth c T' L cells slots ∧ T'.heap = h' ∧ h.size ≤ h'.size ∧ Ow K Z h' n0 D ∧ Fr n0 L ∧ ∀ target, Steps p.tables e below (T'.setTop { g with pc := g.pc + 3, stack := rest }) target → Steps p.tables e below (T.setTop g) target := by
  obtain ⟨vs, hD⟩ := ck_e hck
  have E := O.exa hD hK
  obtain ⟨w1, -, F1⟩ := ((O.2 a t vs hD).2 C hK).2 0 f1 d1 hf1
  have N1 : ∃ cell : Cell, h[n0 + a]? = some cell ∧ cell.vm ≠ .unknown := by
    obtain ⟨cell, _, _, _, _, q1, _, _, q4, _⟩ := F1
    exact ⟨cell, q1, q4⟩
  have Lf : Laid Z a0 C C f d := L.imp id (·.1)
  obtain ⟨old, F⟩ := fld_laid E N1 wi Lf
  obtain ⟨T', h', X', e', W, st⟩ := putFN X hx hZ hown w Via.refl eT F E L wi hty hn hfit hgm hs hd
  exact ⟨T', h', _, X', e', Nat.le_of_eq W.size.symm, O.putU hL hD hK hne Lf hty W, Fr.snoc X' N (Nat.le_add_right _ _), st⟩
/-! 5. the wide part: a body that may intern -/
def GlW (p : Program) (e : Env) (below : List Frame) (s : State) (kc ks : Nat) (P : Option Value → Heap → List Loc → Prop) (S : State) : Prop :=
  ∃ t o, Steps p.tables e below S t ∧ t.status = .running ∧ Ended t below o ∧ ∃ v L, o = .returned v ∧ P v t.heap L ∧ ReturnedEndW s o t L kc ks
theorem GlW.on {kc ks : Nat} {P : Option Value → Heap → List Loc → Prop} {A B : State} (h : ∀ t, Steps p.tables e below B t → Steps p.tables e below A t) (k : GlW p e below s kc ks P B) : GlW p e below s kc ks P A := by
  obtain ⟨t, o, h1, h2⟩ := k
  exact ⟨t, o, h t h1, h2⟩
theorem own_up {s t : State} {o : Outcome} {L : List Loc} {k n k' n' : Nat} (h : ReturnedEndW s o t L k n) (hk : k ≤ k') (hn : n ≤ n') : ReturnedEndW s o t L k' n' := ⟨h.1, h.2.1, h.2.2.1, h.2.2.2.mono hk hn⟩
theorem GlW.outN {vm0 : Vm} {k0 kc ks : Nat} {P : Option Value → Heap → List Loc → Prop} (X : Stand p l e R (s.setVm vm0) m args below meth c T locs cells slots) (hS : s.Since vm0 k0) (hk : k0 ≤ T.heap.size) (hx : p.tables.exec = Jvm.exec) (hlk : meth.locks = false) {pc : Nat} {Ls : Array Slot} {z : Int32} {t : FieldType} {rest : List Value} (hret : meth.sig.returnType = some t) (ht : t = .boolean ∨ t = .byte ∨ t = .char ∨ t = .short)
    (hd : decode c.code pc = .ok (.ireturn, 1)) (hP : P (some (.int (nar t z))) T.heap locs) (hc : cells ≤ kc) (hs : slots ≤ ks) : GlW p e below s kc ks P (T.setTop (mkF m pc Ls (.int z :: rest))) := by
  obtain ⟨fs, hr, hrun, hended, hE⟩ := X.leaveW hS hk (v := some (.int (nar t z))) (fun h => by rw [hret] at h; cases h) hlk
  exact ⟨_, _, retN X hx hret ht hd hr, hrun, hended, _, _, rfl, hP, own_up hE hc hs⟩
theorem GlW.outV {vm0 : Vm} {k0 kc ks : Nat} {P : Option Value → Heap → List Loc → Prop} (X : Stand p l e R (s.setVm vm0) m args below meth c T locs cells slots) (hS : s.Since vm0 k0) (hk : k0 ≤ T.heap.size) (hx : p.tables.exec = Jvm.exec) (hlk : meth.locks = false) {pc : Nat} {Ls : Array Slot} (hret : meth.sig.returnType = none)
    (hd : decode c.code pc = .ok (.return_, 1)) (hP : P none T.heap locs) (hc : cells ≤ kc) (hs : slots ≤ ks) : GlW p e below s kc ks P (T.setTop (mkF m pc Ls [])) := by
  obtain ⟨fs, hr, hrun, hended, hE⟩ := X.leaveW hS hk (v := none) (fun _ => rfl) hlk
  exact ⟨_, _, X.returnOut hx hret hd hr, hrun, hended, _, _, rfl, hP, own_up hE hc hs⟩
def CtW (K : Kt) (l : Launch) (Z : State) (y : MethodName) (cw : Jvm.Cond) (rm : Room) (n0 : Nat) (D : Hp) (as' : Array Value) (r : Option Value) (D' : Hp) : Prop :=
  ∀ (h0 : Heap) (ws : List Jvm.Cond), Ow K Z h0 n0 D → MetFree l y (head1 (cw :: ws) rm) (fun a U => a = as' ∧ Z.Warmed39 U.vm ∧ U.heap = h0) (fun _ _ _ _ _ => True) (fun _ U o U' => ∃ v L, o = .returned v ∧ Qw K Z n0 r D' v U'.heap L ∧ ReturnedEndW U o U' L rm.cells rm.slots)
theorem CtW.of {as' : Array Value} (hpl : plainFor y = true) (body : ∀ (p : Program) (e : Env) (s : State) (m : MethodId) (below : List Frame) (meth : Method) (c : Code) (s₁ : State) (h0 : Heap), Cx p (s.setVm s.vm) m meth c Z bytes maxL ret y.cls y.name → Stand p l e rm (s.setVm s.vm) m as' below meth c s₁ [] 0 0 → s₁.heap = h0 → Ow K Z h0 n0 D → s.Since s.vm 0 →
      GlW p e below s rm.cells rm.slots (Qw K Z n0 r D') (s₁.setTop (entryFrame m as' maxL))) : CtW K l Z y (.code y bytes maxL ret) rm n0 D as' r D' := by
  intro h0 ws O
  refine MetFree.of_bodySF hpl hisR ?_
  intro p e s m args below meth c s₁ Bd hml0 hP hK
  obtain ⟨rfl, hZ, hh⟩ := hP
  exact body p e s m below meth c s₁ h0 ⟨Bd.exec, hZ, Bd.bytes, hml0, findClass_of_methodNamed Bd.named, (name_of_methodNamed Bd.named Bd.method).1, Bd.returns, BodyLoose.notSynchronized Bd⟩ (Stand.of_body Bd) (by rw [← hh, Bd.state]; rfl) O ((State.WarmedH.refl s).since 0)
theorem ldcW {vm0 : Vm} {k0 : Nat} (X : Stand p l e R (s.setVm vm0) m args below meth c T locs cells slots) (hx : p.tables.exec = Jvm.exec) (hZ : Z.Warmed39 (s.setVm vm0).vm) {own text : String} {index : Nat} (hown : (s.setVm vm0).vm.findClass own = some m.cls) (w : (Cond.stringLink own index text).before a0 Z = true) (wS : ∀ a ∈ Bundle.stringAtoms, a.before a0 Z = true)
    (eT : T.heap = h) (O : Ow K Z h n0 D) (h98 : (K 98).1 = .int) (hS : s.Since vm0 k0) (hk : k0 ≤ h.size) {g : JFrame} (hg : g.method = m) (hd : decode c.code g.pc = .ok (.ldc index, 2)) {n : Nat} (hn : 4 * text.toList.length ≤ n) (hbig : n ≤ 536870912) (hc : cells + 2 ≤ R.cells) (hl : slots + (n + 4) ≤ R.slots) :
    ∃ (sa : Addr) (T' : State) (h' : Heap) (k1 : Nat), Stand p l e R (s.setVm T'.vm) m args below meth c T' locs (cells + 2) (slots + (n + 4)) ∧ T'.heap = h' ∧ Ow K Z h' n0 (D ++ [(98, [])]) ∧ s.Since T'.vm k1 ∧ k1 ≤ h'.size ∧ Z.Warmed39 (s.setVm T'.vm).vm ∧ (s.setVm T'.vm).vm.findClass own = some m.cls ∧
      ∀ target, Steps p.tables e below (T'.setTop { g with pc := g.pc + 2, stack := .ref sa :: g.stack }) target → Steps p.tables e below (T.setTop g) target := by
  obtain ⟨sa, T', h', k1, X', e', E, hS', hk', hZ', hown', st⟩ := ldcS X hx hZ hown w wS eT hS hk hg hd hn hbig hc hl
  exact ⟨sa, T', h', k1, X', e', O.mark E h98, hS', hk', hZ', hown', st⟩
theorem callIWS {vm0 : Vm} {k0 : Nat} (X : Stand p l e R (s.setVm vm0) m args below meth c T locs cells slots) (hx : p.tables.exec = Jvm.exec) (hZ : Z.Warmed39 (s.setVm vm0).vm) {own : String} {index : Nat} (hy1 : y.name = "<init>") (hown : (s.setVm vm0).vm.findClass own = some m.cls) (w1 : (Cond.methodLink own index y).before a0 Z = true) (w2 : (Cond.instanceMethod y).before a0 Z = true) (w3 : (Cond.initialized y.cls).before a0 Z = true) (w4 : (Cond.code y bytes maxL none).before a0 Z = true)
    (hy : y.cls ≠ "java/lang/invoke/MethodHandle" ∧ y.cls ≠ "java/lang/invoke/VarHandle") (eT : T.heap = h) (O : Ow K Z h n0 D) (N : Fr n0 locs) (hS : s.Since vm0 k0) (hk : k0 ≤ h.size) {as' : List Value} (hM : CtW K l Z y (.code y bytes maxL none) rm n0 D (.ref (n0 + a) :: as').toArray r D') {W kc ks : Nat} (hkc : rm.cells = kc) (hks : rm.slots = ks) (hf : rm.frames + 1 ≤ R.frames) (hl : W + (maxL + 11) + rm.locals ≤ R.locals)
    {g : JFrame} (hg : g.method = m) (hsize : g.locals.size = c.maxLocals) {rest : List Value} (hlen : ∀ sig, parseMethodDescriptor y.desc = some sig → as'.length = sig.parameters.length) (hs : g.stack = as'.reverse ++ .ref (n0 + a) :: rest) (hW : 2 * g.monitorRoom + (rest.map fun v => v.category).sum ≤ W) (hd : decode c.code g.pc = .ok (.invokespecial index, 3)) (hc : cells + kc ≤ R.cells) (hsl : slots + ks ≤ R.slots) :
    ∃ T' h' L k1, Stand p l e R (s.setVm T'.vm) m args below meth c T' L (cells + kc) (slots + ks) ∧ T'.heap = h' ∧ Ow K Z h' n0 D' ∧ Fr n0 L ∧ s.Since T'.vm k1 ∧ k1 ≤ h'.size ∧ Z.Warmed39 (s.setVm T'.vm).vm ∧ (s.setVm T'.vm).vm.findClass own = some m.cls ∧ ∀ target, Steps p.tables e below (T'.setTop { g with pc := g.pc + 3, stack := r.toList ++ rest }) target → Steps p.tables e below (T.setTop g) target := by
  subst hkc hks
  obtain ⟨_, _, ⟨T', L', k', n'⟩, -, X', hS2, hg2, ⟨Lc, hQ, hL, hk', hn⟩, st⟩ := X.specialBackS hx hy1 hown (mvT hZ w1) (mvT hZ w2) (mvT hZ w4) hy (backOfS (W := W) (hM h [] O) hZ w4 w3 hf hl) hg hsize (Steps.refl _) (argsL := as') hlen hs hW hd (fun _ _ => ⟨rfl, eT, hc, hsl⟩)
  dsimp only [Pt.U, Pt.locs, Pt.cells, Pt.slots] at X' hS2 hg2 hL hk' hn st hQ
  subst hL hk' hn
  obtain ⟨rfl, N', O'⟩ := hQ
  exact ⟨T', _, _, _, X', rfl, O', N.app N', foldS hS (by rw [eT]; exact hk) hS2 hg2, Nat.le_refl _, State.Warmed39.trans (t := s.setVm vm0) hZ hS2.1, by rw [show (s.setVm T'.vm).vm = T'.vm from rfl, hS2.1.alike.findClass]; exact hown, fun target k => st.trans k⟩
end OwnLaws
def Kt1 : Kt := fun k => match k with
  | 0 => ((.array .byte), [])
  | 1 => ((.object "com/example/pathweave/pathweave/core/Parameter$Range"), [("min", "J"), ("max", "J")])
  | _ => (.int, [])
theorem lay1 {Z : State} {a0 : Array Value} (hw : ∀ d ∈ tables_1, d.before a0 Z = true) : Lay Kt1 Z a0 := by
  intro t C hC
  match t, hC with
  | 0, hC => cases hC
  | 1, hC =>
    cases hC
    refine ⟨fun q hq => ?_, by decide⟩
    have hq' : q ∈ [(("min", "J") : String × String), (("max", "J") : String × String)] := hq
    simp only [List.mem_cons, List.not_mem_nil, or_false] at hq'
    rcases hq' with rfl | rfl
    · exact ⟨Or.inr (hw _ (List.mem_of_getElem? (i := 32) rfl)), _, (by decide : parseFieldDescriptor _ = some .long)⟩
    · exact ⟨Or.inr (hw _ (List.mem_of_getElem? (i := 34) rfl)), _, (by decide : parseFieldDescriptor _ = some .long)⟩
  | n + 2, hC => cases hC
theorem own_strs : ∀ d ∈ Bundle.stringAtoms, d ∈ tables_1 := by
  intro d hd
  simp only [Bundle.stringAtoms, List.mem_cons, List.not_mem_nil, or_false] at hd
  rcases hd with rfl | rfl | rfl | rfl | rfl | rfl | rfl
  all_goals first | exact List.mem_of_getElem? (i := 11) rfl | exact List.mem_of_getElem? (i := 12) rfl | exact List.mem_of_getElem? (i := 13) rfl | exact List.mem_of_getElem? (i := 14) rfl | exact List.mem_of_getElem? (i := 15) rfl | exact List.mem_of_getElem? (i := 16) rfl | exact List.mem_of_getElem? (i := 17) rfl
theorem d1_0 : decode jdk_29_method_70_code 0 = .ok (.lload_n 0, 1) := by decide +kernel
theorem d1_1 : decode jdk_29_method_70_code 1 = .ok (.lload_n 2, 1) := by decide +kernel
theorem d1_2 : decode jdk_29_method_70_code 2 = .ok (.lcmp, 1) := by decide +kernel
theorem d1_3 : decode jdk_29_method_70_code 3 = .ok (.ifCond .gt 7, 3) := by decide +kernel
theorem d1_6 : decode jdk_29_method_70_code 6 = .ok (.lload_n 0, 1) := by decide +kernel
theorem d1_7 : decode jdk_29_method_70_code 7 = .ok (.goto 4, 3) := by decide +kernel
theorem d1_10 : decode jdk_29_method_70_code 10 = .ok (.lload_n 2, 1) := by decide +kernel
theorem d1_11 : decode jdk_29_method_70_code 11 = .ok (.lreturn, 1) := by decide +kernel
def f1 (D : Hp) (j0 : Int64) (j2 : Int64) : Option (Int64 × Hp) :=
  if j2 < j0 then (some (j2, D)) else (some (j0, D))
theorem ef_1 (m : MethodId) (j0 : Int64) (j2 : Int64) : entryFrame m #[(.long j0), (.long j2)] 4 = mkF m 0 #[.val (.long j0), .second, .val (.long j2), .second] [] := by first | (simp [entryFrame, mkF, argsToLocals, Value.category]; done) | rfl
set_option maxRecDepth 65536 in
set_option maxHeartbeats 40000000 in
theorem ct1 {l : Launch} {Z : State} {a0 : Array Value} (hw : ∀ d ∈ tables_1, d.before a0 Z = true) {n0 : Nat} {D D' : Hp} {j0 : Int64} {j2 : Int64} {r : Int64} (hf : f1 D j0 j2 = some (r, D')) :
    Ct Kt1 l Z (⟨"java/lang/Math", "min", "(JJ)J"⟩ : MethodName) (.code (⟨"java/lang/Math", "min", "(JJ)J"⟩ : MethodName) jdk_29_method_70_code 4 (some .long)) ({ frames := 0, cells := 0, slots := 0, locals := 0 } : Room) n0 D #[(.long j0), (.long j2)] (some (.long r)) D' := by
  refine Ct.of (Jvm.Free.JP.mathPlain rfl (by decide +kernel)) ?_
  intro p e s m below meth c T0 h0 hC X0 e0 O0
  obtain ⟨hx, hZ, hby, hml, hown, hnm, hret, hlk⟩ := id hC
  have hml : c.maxLocals = 4 := hml
  have hown : s.vm.findClass "java/lang/Math" = some m.cls := hown
  have hnm : meth.name = "min" := hnm
  have N0 := Fr.nil n0
  refine Gl.on (fun t k => castTop (ef_1 m j0 j2) k) ?_
  rw [f1] at hf
  refine Gl.on (B := T0.setTop (mkF m 3 #[.val (.long j0), .second, .val (.long j2), .second] [(.int (lcmpW j0 j2))])) (fun t k => ?_) ?_
  · show Steps p.tables e below (T0.setTop (mkF m 0 #[.val (.long j0), .second, .val (.long j2), .second] [])) _
    refine XS.lloadN X0.here hx rfl (hb hby d1_0) rfl ?_
    show Steps p.tables e below (T0.setTop (mkF m 1 #[.val (.long j0), .second, .val (.long j2), .second] [(.long j0)])) _
    refine XS.lloadN X0.here hx rfl (hb hby d1_1) rfl ?_
    show Steps p.tables e below (T0.setTop (mkF m 2 #[.val (.long j0), .second, .val (.long j2), .second] [(.long j2), (.long j0)])) _
    refine XS.lcmp X0.here hx rfl (hb hby d1_2) rfl ?_
    exact k
  by_cases hc1 : j2 < j0
  · rw [if_pos hc1] at hf
    refine Gl.on (B := T0.setTop (mkF m 11 #[.val (.long j0), .second, .val (.long j2), .second] [(.long j2)])) (fun t k => ?_) ?_
    · show Steps p.tables e below (T0.setTop (mkF m 3 #[.val (.long j0), .second, .val (.long j2), .second] [(.int (lcmpW j0 j2))])) _
      refine XS.ifYes X0.here hx rfl (pc0 := 3) (pc' := 10) rfl (hb hby d1_3) rfl ((if0 _ _).trans (tlt ((lw_gt _ _).mpr hc1)).2.2.1) (by decide) (by decide) ?_
      show Steps p.tables e below (T0.setTop (mkF m 10 #[.val (.long j0), .second, .val (.long j2), .second] [])) _
      refine XS.lloadN X0.here hx rfl (hb hby d1_10) rfl ?_
      exact k
    obtain ⟨rfl, rfl⟩ := own_inj hf
    exact Gl.outJ X0 hx hlk hret (hb hby d1_11) ⟨rfl, N0, by rw [e0]; exact O0⟩ (by show _ ≤ 0; omega) (by show _ ≤ 0; omega)
  · rw [if_neg hc1] at hf
    refine Gl.on (B := T0.setTop (mkF m 11 #[.val (.long j0), .second, .val (.long j2), .second] [(.long j0)])) (fun t k => ?_) ?_
    · show Steps p.tables e below (T0.setTop (mkF m 3 #[.val (.long j0), .second, .val (.long j2), .second] [(.int (lcmpW j0 j2))])) _
      refine XS.ifNo X0.here hx rfl (hb hby d1_3) rfl ((if0 _ _).trans (flt (mt (lw_gt _ _).mp hc1)).2.2.1) ?_
      show Steps p.tables e below (T0.setTop (mkF m 6 #[.val (.long j0), .second, .val (.long j2), .second] [])) _
      refine XS.lloadN X0.here hx rfl (hb hby d1_6) rfl ?_
      show Steps p.tables e below (T0.setTop (mkF m 7 #[.val (.long j0), .second, .val (.long j2), .second] [(.long j0)])) _
      refine XS.goto X0.here hx rfl (pc0 := 7) (pc' := 11) rfl (hb hby d1_7) (by decide) (by decide) ?_
      exact k
    obtain ⟨rfl, rfl⟩ := own_inj hf
    exact Gl.outJ X0 hx hlk hret (hb hby d1_11) ⟨rfl, N0, by rw [e0]; exact O0⟩ (by show _ ≤ 0; omega) (by show _ ≤ 0; omega)
theorem d2_0 : decode jdk_29_method_66_code 0 = .ok (.lload_n 0, 1) := by decide +kernel
theorem d2_1 : decode jdk_29_method_66_code 1 = .ok (.lload_n 2, 1) := by decide +kernel
theorem d2_2 : decode jdk_29_method_66_code 2 = .ok (.lcmp, 1) := by decide +kernel
theorem d2_3 : decode jdk_29_method_66_code 3 = .ok (.ifCond .lt 7, 3) := by decide +kernel
theorem d2_6 : decode jdk_29_method_66_code 6 = .ok (.lload_n 0, 1) := by decide +kernel
theorem d2_7 : decode jdk_29_method_66_code 7 = .ok (.goto 4, 3) := by decide +kernel
theorem d2_10 : decode jdk_29_method_66_code 10 = .ok (.lload_n 2, 1) := by decide +kernel
theorem d2_11 : decode jdk_29_method_66_code 11 = .ok (.lreturn, 1) := by decide +kernel
def f2 (D : Hp) (j0 : Int64) (j2 : Int64) : Option (Int64 × Hp) :=
  if j0 < j2 then (some (j2, D)) else (some (j0, D))
theorem ef_2 (m : MethodId) (j0 : Int64) (j2 : Int64) : entryFrame m #[(.long j0), (.long j2)] 4 = mkF m 0 #[.val (.long j0), .second, .val (.long j2), .second] [] := by first | (simp [entryFrame, mkF, argsToLocals, Value.category]; done) | rfl
set_option maxRecDepth 65536 in
set_option maxHeartbeats 40000000 in
theorem ct2 {l : Launch} {Z : State} {a0 : Array Value} (hw : ∀ d ∈ tables_1, d.before a0 Z = true) {n0 : Nat} {D D' : Hp} {j0 : Int64} {j2 : Int64} {r : Int64} (hf : f2 D j0 j2 = some (r, D')) :
    Ct Kt1 l Z (⟨"java/lang/Math", "max", "(JJ)J"⟩ : MethodName) (.code (⟨"java/lang/Math", "max", "(JJ)J"⟩ : MethodName) jdk_29_method_66_code 4 (some .long)) ({ frames := 0, cells := 0, slots := 0, locals := 0 } : Room) n0 D #[(.long j0), (.long j2)] (some (.long r)) D' := by
  refine Ct.of (Jvm.Free.JP.mathPlain rfl (by decide +kernel)) ?_
  intro p e s m below meth c T0 h0 hC X0 e0 O0
  obtain ⟨hx, hZ, hby, hml, hown, hnm, hret, hlk⟩ := id hC
  have hml : c.maxLocals = 4 := hml
  have hown : s.vm.findClass "java/lang/Math" = some m.cls := hown
  have hnm : meth.name = "max" := hnm
  have N0 := Fr.nil n0
  refine Gl.on (fun t k => castTop (ef_2 m j0 j2) k) ?_
  rw [f2] at hf
  refine Gl.on (B := T0.setTop (mkF m 3 #[.val (.long j0), .second, .val (.long j2), .second] [(.int (lcmpW j0 j2))])) (fun t k => ?_) ?_
  · show Steps p.tables e below (T0.setTop (mkF m 0 #[.val (.long j0), .second, .val (.long j2), .second] [])) _
    refine XS.lloadN X0.here hx rfl (hb hby d2_0) rfl ?_
    show Steps p.tables e below (T0.setTop (mkF m 1 #[.val (.long j0), .second, .val (.long j2), .second] [(.long j0)])) _
    refine XS.lloadN X0.here hx rfl (hb hby d2_1) rfl ?_
    show Steps p.tables e below (T0.setTop (mkF m 2 #[.val (.long j0), .second, .val (.long j2), .second] [(.long j2), (.long j0)])) _
    refine XS.lcmp X0.here hx rfl (hb hby d2_2) rfl ?_
    exact k
  by_cases hc1 : j0 < j2
  · rw [if_pos hc1] at hf
    refine Gl.on (B := T0.setTop (mkF m 11 #[.val (.long j0), .second, .val (.long j2), .second] [(.long j2)])) (fun t k => ?_) ?_
    · show Steps p.tables e below (T0.setTop (mkF m 3 #[.val (.long j0), .second, .val (.long j2), .second] [(.int (lcmpW j0 j2))])) _
      refine XS.ifYes X0.here hx rfl (pc0 := 3) (pc' := 10) rfl (hb hby d2_3) rfl ((if0 _ _).trans (tlt ((lw_lt _ _).mpr hc1)).1) (by decide) (by decide) ?_
      show Steps p.tables e below (T0.setTop (mkF m 10 #[.val (.long j0), .second, .val (.long j2), .second] [])) _
      refine XS.lloadN X0.here hx rfl (hb hby d2_10) rfl ?_
      exact k
    obtain ⟨rfl, rfl⟩ := own_inj hf
    exact Gl.outJ X0 hx hlk hret (hb hby d2_11) ⟨rfl, N0, by rw [e0]; exact O0⟩ (by show _ ≤ 0; omega) (by show _ ≤ 0; omega)
  · rw [if_neg hc1] at hf
    refine Gl.on (B := T0.setTop (mkF m 11 #[.val (.long j0), .second, .val (.long j2), .second] [(.long j0)])) (fun t k => ?_) ?_
    · show Steps p.tables e below (T0.setTop (mkF m 3 #[.val (.long j0), .second, .val (.long j2), .second] [(.int (lcmpW j0 j2))])) _
      refine XS.ifNo X0.here hx rfl (hb hby d2_3) rfl ((if0 _ _).trans (flt (mt (lw_lt _ _).mp hc1)).1) ?_
      show Steps p.tables e below (T0.setTop (mkF m 6 #[.val (.long j0), .second, .val (.long j2), .second] [])) _
      refine XS.lloadN X0.here hx rfl (hb hby d2_6) rfl ?_
      show Steps p.tables e below (T0.setTop (mkF m 7 #[.val (.long j0), .second, .val (.long j2), .second] [(.long j0)])) _
      refine XS.goto X0.here hx rfl (pc0 := 7) (pc' := 11) rfl (hb hby d2_7) (by decide) (by decide) ?_
      exact k
    obtain ⟨rfl, rfl⟩ := own_inj hf
    exact Gl.outJ X0 hx hlk hret (hb hby d2_11) ⟨rfl, N0, by rw [e0]; exact O0⟩ (by show _ ≤ 0; omega) (by show _ ≤ 0; omega)
theorem d4_0 : decode jdk_30_method_1_code 0 = .ok (.aload_n 0, 1) := by decide +kernel
theorem d4_1 : decode jdk_30_method_1_code 1 = .ok (.invokespecial 1, 3) := by decide +kernel
theorem d4_4 : decode jdk_30_method_1_code 4 = .ok (.return_, 1) := by decide +kernel
theorem pn_4 : plainName "java/lang/Record" = true := by first | (simp [plainName, overriddenIn]; done) | decide +kernel
def f4 (D : Hp) (ob0 : Nat) : Option (Hp) :=
  some D
theorem ef_4 (m : MethodId) (n0 : Nat) (ob0 : Nat) : entryFrame m #[(.ref (n0 + ob0))] 1 = mkF m 0 #[.val (.ref (n0 + ob0))] [] := by first | (simp [entryFrame, mkF, argsToLocals, Value.category]; done) | rfl
set_option maxRecDepth 65536 in
set_option maxHeartbeats 40000000 in
theorem ct4 {l : Launch} {Z : State} {a0 : Array Value} (hw : ∀ d ∈ tables_1, d.before a0 Z = true) {n0 : Nat} {D D' : Hp} {ob0 : Nat} (hf : f4 D ob0 = some D') :
    Ct Kt1 l Z (⟨"java/lang/Record", "<init>", "()V"⟩ : MethodName) (.code (⟨"java/lang/Record", "<init>", "()V"⟩ : MethodName) jdk_30_method_1_code 1 none) ({ frames := 1, cells := 0, slots := 0, locals := 12 } : Room) n0 D #[(.ref (n0 + ob0))] none D' := by
  refine Ct.of (plainFor_of_name pn_4) ?_
  intro p e s m below meth c T0 h0 hC X0 e0 O0
  obtain ⟨hx, hZ, hby, hml, hown, hnm, hret, hlk⟩ := id hC
  have hml : c.maxLocals = 1 := hml
  have hown : s.vm.findClass "java/lang/Record" = some m.cls := hown
  have hnm : meth.name = "<init>" := hnm
  have N0 := Fr.nil n0
  refine Gl.on (fun t k => castTop (ef_4 m n0 ob0) k) ?_
  rw [f4] at hf
  obtain ⟨T1, X1, e1, st1⟩ := initO X0 hx hZ hown (hw _ (List.mem_of_getElem? (i := 26) rfl)) (hw _ (List.mem_of_getElem? (i := 27) rfl)) (hw _ (List.mem_of_getElem? (i := 28) rfl)) e0 (g := (mkF m 1 #[.val (.ref (n0 + ob0))] [(.ref (n0 + ob0))])) rfl (by rw [hml]; rfl) rfl (hb hby d4_1) (by decide) (W := 0) (by show 2 * 0 + _ ≤ _; exact Nat.le_of_eq rfl) (by decide)
  refine Gl.on (B := T1.setTop (mkF m 4 #[.val (.ref (n0 + ob0))] [])) (fun t k => ?_) ?_
  · show Steps p.tables e below (T0.setTop (mkF m 0 #[.val (.ref (n0 + ob0))] [])) _
    refine XS.aloadN X0.here hx rfl (hb hby d4_0) rfl rfl ?_
    show Steps p.tables e below (T0.setTop (mkF m 1 #[.val (.ref (n0 + ob0))] [(.ref (n0 + ob0))])) _
    refine st1 _ ?_
    exact k
  obtain rfl := own_inj1 hf
  exact Gl.outV X1 hx hlk hret (hb hby d4_4) ⟨rfl, N0, by rw [e1]; exact O0⟩ (by show _ ≤ 0; omega) (by show _ ≤ 0; omega)
theorem pd_0 : parseMethodDescriptor "()V" = some ⟨[], none⟩ := by decide +kernel
theorem d3_0 : decode prog_25_method_1_code 0 = .ok (.aload_n 0, 1) := by decide +kernel
theorem d3_1 : decode prog_25_method_1_code 1 = .ok (.invokespecial 1, 3) := by decide +kernel
theorem d3_4 : decode prog_25_method_1_code 4 = .ok (.lload_n 2, 1) := by decide +kernel
theorem d3_5 : decode prog_25_method_1_code 5 = .ok (.lload 4, 2) := by decide +kernel
theorem d3_7 : decode prog_25_method_1_code 7 = .ok (.lcmp, 1) := by decide +kernel
theorem d3_8 : decode prog_25_method_1_code 8 = .ok (.ifCond .le 20, 3) := by decide +kernel
theorem d3_28 : decode prog_25_method_1_code 28 = .ok (.aload_n 0, 1) := by decide +kernel
theorem d3_29 : decode prog_25_method_1_code 29 = .ok (.aload_n 1, 1) := by decide +kernel
theorem d3_30 : decode prog_25_method_1_code 30 = .ok (.putfield 16, 3) := by decide +kernel
theorem d3_33 : decode prog_25_method_1_code 33 = .ok (.aload_n 0, 1) := by decide +kernel
theorem d3_34 : decode prog_25_method_1_code 34 = .ok (.lload_n 2, 1) := by decide +kernel
theorem d3_35 : decode prog_25_method_1_code 35 = .ok (.putfield 22, 3) := by decide +kernel
theorem d3_38 : decode prog_25_method_1_code 38 = .ok (.aload_n 0, 1) := by decide +kernel
theorem d3_39 : decode prog_25_method_1_code 39 = .ok (.lload 4, 2) := by decide +kernel
theorem d3_41 : decode prog_25_method_1_code 41 = .ok (.putfield 26, 3) := by decide +kernel
theorem d3_44 : decode prog_25_method_1_code 44 = .ok (.return_, 1) := by decide +kernel
theorem pn_3 : plainName "com/example/pathweave/pathweave/core/Parameter$Range" = true := by first | (simp [plainName, overriddenIn]; done) | decide +kernel
def f3 (D : Hp) (ob0 : Nat) (j2 : Int64) (j4 : Int64) : Option (Hp) :=
  (f4 D ob0).bind fun D1 =>
  if j4 < j2 then (none) else ((ck D1 ob0 1).bind fun u4 => (pV D1 ob0 1 0 (.long j2)).bind fun D5 =>
  (pV D5 ob0 1 1 (.long j4)).bind fun D6 =>
  some D6)
theorem ef_3 (m : MethodId) (n0 : Nat) (ob0 : Nat) (sa1 : Nat) (j2 : Int64) (j4 : Int64) : entryFrame m #[(.ref (n0 + ob0)), (.ref sa1), (.long j2), (.long j4)] 6 = mkF m 0 #[.val (.ref (n0 + ob0)), .val (.ref sa1), .val (.long j2), .second, .val (.long j4), .second] [] := by first | (simp [entryFrame, mkF, argsToLocals, Value.category]; done) | rfl
set_option maxRecDepth 65536 in
set_option maxHeartbeats 40000000 in
theorem ct3 {l : Launch} {Z : State} {a0 : Array Value} (hw : ∀ d ∈ tables_1, d.before a0 Z = true) {n0 : Nat} {D D' : Hp} {ob0 : Nat} {sa1 : Nat} {j2 : Int64} {j4 : Int64} (hf : f3 D ob0 j2 j4 = some D') :
    Ct Kt1 l Z (⟨"com/example/pathweave/pathweave/core/Parameter$Range", "<init>", "(Ljava/lang/String;JJ)V"⟩ : MethodName) (.code (⟨"com/example/pathweave/pathweave/core/Parameter$Range", "<init>", "(Ljava/lang/String;JJ)V"⟩ : MethodName) prog_25_method_1_code 6 none) ({ frames := 2, cells := 0, slots := 0, locals := 24 } : Room) n0 D #[(.ref (n0 + ob0)), (.ref sa1), (.long j2), (.long j4)] none D' := by
  refine Ct.of (plainFor_of_name pn_3) ?_
  intro p e s m below meth c T0 h0 hC X0 e0 O0
  obtain ⟨hx, hZ, hby, hml, hown, hnm, hret, hlk⟩ := id hC
  have hml : c.maxLocals = 6 := hml
  have hown : s.vm.findClass "com/example/pathweave/pathweave/core/Parameter$Range" = some m.cls := hown
  have hnm : meth.name = "<init>" := hnm
  have N0 := Fr.nil n0
  refine Gl.on (fun t k => castTop (ef_3 m n0 ob0 sa1 j2 j4) k) ?_
  rw [f3] at hf
  obtain ⟨D1, hq1, hf⟩ := own_bind hf
  obtain ⟨T1, h1, L1, X1, e1, z1, O1, N1, st1⟩ := callIW X0 hx hZ (y := (⟨"java/lang/Record", "<init>", "()V"⟩ : MethodName)) rfl hown (hw _ (List.mem_of_getElem? (i := 21) rfl)) (hw _ (List.mem_of_getElem? (i := 22) rfl)) (hw _ (List.mem_of_getElem? (i := 24) rfl)) (hw _ (List.mem_of_getElem? (i := 25) rfl)) (by decide) e0 O0 N0 (as' := []) (ct4 hw hq1) (W := 0) (kc := 0) (ks := 0) rfl rfl (by decide) (by decide) (g := (mkF m 1 #[.val (.ref (n0 + ob0)), .val (.ref sa1), .val (.long j2), .second, .val (.long j4), .second] [(.ref (n0 + ob0))])) rfl (by rw [hml]; rfl) (rest := []) (lenOf pd_0 rfl) rfl (by show 2 * 0 + _ ≤ _; exact Nat.le_of_eq rfl) (hb hby d3_1) (by show _ + 0 ≤ 0; omega) (by show _ + 0 ≤ 0; omega)
  refine Gl.on (B := T1.setTop (mkF m 8 #[.val (.ref (n0 + ob0)), .val (.ref sa1), .val (.long j2), .second, .val (.long j4), .second] [(.int (lcmpW j2 j4))])) (fun t k => ?_) ?_
  · show Steps p.tables e below (T0.setTop (mkF m 0 #[.val (.ref (n0 + ob0)), .val (.ref sa1), .val (.long j2), .second, .val (.long j4), .second] [])) _
    refine XS.aloadN X0.here hx rfl (hb hby d3_0) rfl rfl ?_
    show Steps p.tables e below (T0.setTop (mkF m 1 #[.val (.ref (n0 + ob0)), .val (.ref sa1), .val (.long j2), .second, .val (.long j4), .second] [(.ref (n0 + ob0))])) _
    refine st1 _ ?_
    show Steps p.tables e below (T1.setTop (mkF m 4 #[.val (.ref (n0 + ob0)), .val (.ref sa1), .val (.long j2), .second, .val (.long j4), .second] [])) _
    refine XS.lloadN X1.here hx rfl (hb hby d3_4) rfl ?_
    show Steps p.tables e below (T1.setTop (mkF m 5 #[.val (.ref (n0 + ob0)), .val (.ref sa1), .val (.long j2), .second, .val (.long j4), .second] [(.long j2)])) _
    refine XS.lload X1.here hx rfl (hb hby d3_5) rfl ?_
    show Steps p.tables e below (T1.setTop (mkF m 7 #[.val (.ref (n0 + ob0)), .val (.ref sa1), .val (.long j2), .second, .val (.long j4), .second] [(.long j4), (.long j2)])) _
    refine XS.lcmp X1.here hx rfl (hb hby d3_7) rfl ?_
    exact k
  by_cases hc2 : j4 < j2
  · rw [if_pos hc2] at hf
    cases hf
  · rw [if_neg hc2] at hf
    obtain ⟨u4, hk3, hf⟩ := own_bind hf
    obtain ⟨T3, h3, L3, X3, e3, z3, O3, N3, st3⟩ := putU X1 hx hZ hown (hw _ (List.mem_of_getElem? (i := 29) rfl)) (lay1 hw) e1 O1 N1 hk3 rfl rfl (by decide) (Or.inr ⟨(hw _ (List.mem_of_getElem? (i := 30) rfl)), rfl, hnm⟩) (hw _ (List.mem_of_getElem? (i := 8) rfl)) (ty := (.object "java/lang/String")) (by decide) (v := (.ref sa1)) (v' := (.ref sa1)) rfl rfl (g := (mkF m 30 #[.val (.ref (n0 + ob0)), .val (.ref sa1), .val (.long j2), .second, .val (.long j4), .second] [(.ref sa1), (.ref (n0 + ob0))])) rfl rfl (hb hby d3_30)
    obtain ⟨D5, hq5, hf⟩ := own_bind hf
    obtain ⟨T5, h5, L5, X5, e5, z5, O5, N5, st5⟩ := putW X3 hx hZ hown (hw _ (List.mem_of_getElem? (i := 31) rfl)) (lay1 hw) e3 O3 N3 hq5 rfl rfl (Or.inr ⟨(hw _ (List.mem_of_getElem? (i := 32) rfl)), rfl, hnm⟩) (hw _ (List.mem_of_getElem? (i := 8) rfl)) (ty := .long) (by decide) rfl rfl (g := (mkF m 35 #[.val (.ref (n0 + ob0)), .val (.ref sa1), .val (.long j2), .second, .val (.long j4), .second] [(.long j2), (.ref (n0 + ob0))])) rfl rfl (hb hby d3_35)
    obtain ⟨D6, hq6, hf⟩ := own_bind hf
    obtain ⟨T6, h6, L6, X6, e6, z6, O6, N6, st6⟩ := putW X5 hx hZ hown (hw _ (List.mem_of_getElem? (i := 33) rfl)) (lay1 hw) e5 O5 N5 hq6 rfl rfl (Or.inr ⟨(hw _ (List.mem_of_getElem? (i := 34) rfl)), rfl, hnm⟩) (hw _ (List.mem_of_getElem? (i := 8) rfl)) (ty := .long) (by decide) rfl rfl (g := (mkF m 41 #[.val (.ref (n0 + ob0)), .val (.ref sa1), .val (.long j2), .second, .val (.long j4), .second] [(.long j4), (.ref (n0 + ob0))])) rfl rfl (hb hby d3_41)
    refine Gl.on (B := T6.setTop (mkF m 44 #[.val (.ref (n0 + ob0)), .val (.ref sa1), .val (.long j2), .second, .val (.long j4), .second] [])) (fun t k => ?_) ?_
    · show Steps p.tables e below (T1.setTop (mkF m 8 #[.val (.ref (n0 + ob0)), .val (.ref sa1), .val (.long j2), .second, .val (.long j4), .second] [(.int (lcmpW j2 j4))])) _
      refine XS.ifYes X1.here hx rfl (pc0 := 8) (pc' := 28) rfl (hb hby d3_8) rfl ((if0 _ _).trans (flt (mt (lw_gt _ _).mp hc2)).2.2.2) (by decide) (by decide) ?_
      show Steps p.tables e below (T1.setTop (mkF m 28 #[.val (.ref (n0 + ob0)), .val (.ref sa1), .val (.long j2), .second, .val (.long j4), .second] [])) _
      refine XS.aloadN X1.here hx rfl (hb hby d3_28) rfl rfl ?_
      show Steps p.tables e below (T1.setTop (mkF m 29 #[.val (.ref (n0 + ob0)), .val (.ref sa1), .val (.long j2), .second, .val (.long j4), .second] [(.ref (n0 + ob0))])) _
      refine XS.aloadN X1.here hx rfl (hb hby d3_29) rfl rfl ?_
      show Steps p.tables e below (T1.setTop (mkF m 30 #[.val (.ref (n0 + ob0)), .val (.ref sa1), .val (.long j2), .second, .val (.long j4), .second] [(.ref sa1), (.ref (n0 + ob0))])) _
      refine st3 _ ?_
      show Steps p.tables e below (T3.setTop (mkF m 33 #[.val (.ref (n0 + ob0)), .val (.ref sa1), .val (.long j2), .second, .val (.long j4), .second] [])) _
      refine XS.aloadN X3.here hx rfl (hb hby d3_33) rfl rfl ?_
      show Steps p.tables e below (T3.setTop (mkF m 34 #[.val (.ref (n0 + ob0)), .val (.ref sa1), .val (.long j2), .second, .val (.long j4), .second] [(.ref (n0 + ob0))])) _
      refine XS.lloadN X3.here hx rfl (hb hby d3_34) rfl ?_
      show Steps p.tables e below (T3.setTop (mkF m 35 #[.val (.ref (n0 + ob0)), .val (.ref sa1), .val (.long j2), .second, .val (.long j4), .second] [(.long j2), (.ref (n0 + ob0))])) _
      refine st5 _ ?_
      show Steps p.tables e below (T5.setTop (mkF m 38 #[.val (.ref (n0 + ob0)), .val (.ref sa1), .val (.long j2), .second, .val (.long j4), .second] [])) _
      refine XS.aloadN X5.here hx rfl (hb hby d3_38) rfl rfl ?_
      show Steps p.tables e below (T5.setTop (mkF m 39 #[.val (.ref (n0 + ob0)), .val (.ref sa1), .val (.long j2), .second, .val (.long j4), .second] [(.ref (n0 + ob0))])) _
      refine XS.lload X5.here hx rfl (hb hby d3_39) rfl ?_
      show Steps p.tables e below (T5.setTop (mkF m 41 #[.val (.ref (n0 + ob0)), .val (.ref sa1), .val (.long j2), .second, .val (.long j4), .second] [(.long j4), (.ref (n0 + ob0))])) _
      refine st6 _ ?_
      exact k
    obtain rfl := own_inj1 hf
    exact Gl.outV X6 hx hlk hret (hb hby d3_44) ⟨rfl, N6, by rw [e6]; exact O6⟩ (by show _ ≤ 0; omega) (by show _ ≤ 0; omega)
theorem d6_0 : decode prog_25_method_4_code 0 = .ok (.aload_n 0, 1) := by decide +kernel
theorem d6_1 : decode prog_25_method_4_code 1 = .ok (.getfield 26, 3) := by decide +kernel
theorem d6_4 : decode prog_25_method_4_code 4 = .ok (.aload_n 0, 1) := by decide +kernel
theorem d6_5 : decode prog_25_method_4_code 5 = .ok (.getfield 22, 3) := by decide +kernel
theorem d6_8 : decode prog_25_method_4_code 8 = .ok (.lsub, 1) := by decide +kernel
theorem d6_9 : decode prog_25_method_4_code 9 = .ok (.lconst 0, 1) := by decide +kernel
theorem d6_10 : decode prog_25_method_4_code 10 = .ok (.lcmp, 1) := by decide +kernel
theorem d6_11 : decode prog_25_method_4_code 11 = .ok (.ifCond .lt 23, 3) := by decide +kernel
theorem d6_14 : decode prog_25_method_4_code 14 = .ok (.aload_n 0, 1) := by decide +kernel
theorem d6_15 : decode prog_25_method_4_code 15 = .ok (.getfield 26, 3) := by decide +kernel
theorem d6_18 : decode prog_25_method_4_code 18 = .ok (.aload_n 0, 1) := by decide +kernel
theorem d6_19 : decode prog_25_method_4_code 19 = .ok (.getfield 22, 3) := by decide +kernel
theorem d6_22 : decode prog_25_method_4_code 22 = .ok (.lsub, 1) := by decide +kernel
theorem d6_23 : decode prog_25_method_4_code 23 = .ok (.ldc2_w 38, 3) := by decide +kernel
theorem d6_26 : decode prog_25_method_4_code 26 = .ok (.lcmp, 1) := by decide +kernel
theorem d6_27 : decode prog_25_method_4_code 27 = .ok (.ifCond .ge 7, 3) := by decide +kernel
theorem d6_30 : decode prog_25_method_4_code 30 = .ok (.iconst 1, 1) := by decide +kernel
theorem d6_31 : decode prog_25_method_4_code 31 = .ok (.goto 4, 3) := by decide +kernel
theorem d6_34 : decode prog_25_method_4_code 34 = .ok (.iconst 0, 1) := by decide +kernel
theorem d6_35 : decode prog_25_method_4_code 35 = .ok (.ireturn, 1) := by decide +kernel
theorem pn_6 : plainName "com/example/pathweave/pathweave/core/Parameter$Range" = true := by first | (simp [plainName, overriddenIn]; done) | decide +kernel
def f6 (D : Hp) (ob0 : Nat) : Option (Int32 × Hp) :=
  (gJ D ob0 1 1).bind fun x1 =>
  (gJ D ob0 1 0).bind fun x3 =>
  if (x1 - x3) < (0 : Int64) then (some ((0 : Int32), D)) else ((gJ D ob0 1 1).bind fun x6 =>
  (gJ D ob0 1 0).bind fun x8 =>
  if (x6 - x8) < (16 : Int64) then (some ((1 : Int32), D)) else (some ((0 : Int32), D)))
theorem ef_6 (m : MethodId) (n0 : Nat) (ob0 : Nat) : entryFrame m #[(.ref (n0 + ob0))] 1 = mkF m 0 #[.val (.ref (n0 + ob0))] [] := by first | (simp [entryFrame, mkF, argsToLocals, Value.category]; done) | rfl
set_option maxRecDepth 65536 in
set_option maxHeartbeats 40000000 in
theorem ct6 {l : Launch} {Z : State} {a0 : Array Value} (hw : ∀ d ∈ tables_1, d.before a0 Z = true) {n0 : Nat} {D D' : Hp} {ob0 : Nat} {r : Int32} (hf : f6 D ob0 = some (r, D')) :
    Ct Kt1 l Z (⟨"com/example/pathweave/pathweave/core/Parameter$Range", "triedWhole", "()Z"⟩ : MethodName) (.code (⟨"com/example/pathweave/pathweave/core/Parameter$Range", "triedWhole", "()Z"⟩ : MethodName) prog_25_method_4_code 1 (some .boolean)) ({ frames := 0, cells := 0, slots := 0, locals := 0 } : Room) n0 D #[(.ref (n0 + ob0))] (some (.int r)) D' := by
  refine Ct.of (plainFor_of_name pn_6) ?_
  intro p e s m below meth c T0 h0 hC X0 e0 O0
  obtain ⟨hx, hZ, hby, hml, hown, hnm, hret, hlk⟩ := id hC
  have hml : c.maxLocals = 1 := hml
  have hown : s.vm.findClass "com/example/pathweave/pathweave/core/Parameter$Range" = some m.cls := hown
  have hnm : meth.name = "triedWhole" := hnm
  have N0 := Fr.nil n0
  refine Gl.on (fun t k => castTop (ef_6 m n0 ob0) k) ?_
  rw [f6] at hf
  obtain ⟨x1, hx1, hf⟩ := own_bind hf
  obtain ⟨T2, X2, e2, st2⟩ := getF X0 hx hZ hown (host := "") (Or.inl (hw _ (List.mem_of_getElem? (i := 33) rfl))) Via.refl e0 (O0.fld (gJ_e hx1) rfl rfl) (g := (mkF m 1 #[.val (.ref (n0 + ob0))] [(.ref (n0 + ob0))])) rfl rfl (hb hby d6_1)
  obtain ⟨x3, hx3, hf⟩ := own_bind hf
  obtain ⟨T4, X4, e4, st4⟩ := getF X2 hx hZ hown (host := "") (Or.inl (hw _ (List.mem_of_getElem? (i := 31) rfl))) Via.refl e2 (O0.fld (gJ_e hx3) rfl rfl) (g := (mkF m 5 #[.val (.ref (n0 + ob0))] [(.ref (n0 + ob0)), (.long x1)])) rfl rfl (hb hby d6_5)
  refine Gl.on (B := T4.setTop (mkF m 11 #[.val (.ref (n0 + ob0))] [(.int (lcmpW (x1 - x3) (0 : Int64)))])) (fun t k => ?_) ?_
  · show Steps p.tables e below (T0.setTop (mkF m 0 #[.val (.ref (n0 + ob0))] [])) _
    refine XS.aloadN X0.here hx rfl (hb hby d6_0) rfl rfl ?_
    show Steps p.tables e below (T0.setTop (mkF m 1 #[.val (.ref (n0 + ob0))] [(.ref (n0 + ob0))])) _
    refine st2 _ ?_
    show Steps p.tables e below (T2.setTop (mkF m 4 #[.val (.ref (n0 + ob0))] [(.long x1)])) _
    refine XS.aloadN X2.here hx rfl (hb hby d6_4) rfl rfl ?_
    show Steps p.tables e below (T2.setTop (mkF m 5 #[.val (.ref (n0 + ob0))] [(.ref (n0 + ob0)), (.long x1)])) _
    refine st4 _ ?_
    show Steps p.tables e below (T4.setTop (mkF m 8 #[.val (.ref (n0 + ob0))] [(.long x3), (.long x1)])) _
    refine XS.lsub X4.here hx rfl (hb hby d6_8) rfl ?_
    show Steps p.tables e below (T4.setTop (mkF m 9 #[.val (.ref (n0 + ob0))] [(.long (x1 - x3))])) _
    refine XS.lconst X4.here hx rfl (hb hby d6_9) ?_
    show Steps p.tables e below (T4.setTop (mkF m 10 #[.val (.ref (n0 + ob0))] [(.long (0 : Int64)), (.long (x1 - x3))])) _
    refine XS.lcmp X4.here hx rfl (hb hby d6_10) rfl ?_
    exact k
  by_cases hc5 : (x1 - x3) < (0 : Int64)
  · rw [if_pos hc5] at hf
    refine Gl.on (B := T4.setTop (mkF m 35 #[.val (.ref (n0 + ob0))] [(.int (0 : Int32))])) (fun t k => ?_) ?_
    · show Steps p.tables e below (T4.setTop (mkF m 11 #[.val (.ref (n0 + ob0))] [(.int (lcmpW (x1 - x3) (0 : Int64)))])) _
      refine XS.ifYes X4.here hx rfl (pc0 := 11) (pc' := 34) rfl (hb hby d6_11) rfl ((if0 _ _).trans (tlt ((lw_lt _ _).mpr hc5)).1) (by decide) (by decide) ?_
      show Steps p.tables e below (T4.setTop (mkF m 34 #[.val (.ref (n0 + ob0))] [])) _
      refine XS.iconst X4.here hx rfl (hb hby d6_34) ?_
      exact k
    obtain ⟨rfl, rfl⟩ := own_inj hf
    exact Gl.outN X4 hx hlk (t := .boolean) hret (by simp) (hb hby d6_35) ⟨rfl, N0, by rw [e4]; exact O0⟩ (by show _ ≤ 0; omega) (by show _ ≤ 0; omega)
  · rw [if_neg hc5] at hf
    obtain ⟨x6, hx6, hf⟩ := own_bind hf
    obtain ⟨T7, X7, e7, st7⟩ := getF X4 hx hZ hown (host := "") (Or.inl (hw _ (List.mem_of_getElem? (i := 33) rfl))) Via.refl e4 (O0.fld (gJ_e hx6) rfl rfl) (g := (mkF m 15 #[.val (.ref (n0 + ob0))] [(.ref (n0 + ob0))])) rfl rfl (hb hby d6_15)
    obtain ⟨x8, hx8, hf⟩ := own_bind hf
    obtain ⟨T9, X9, e9, st9⟩ := getF X7 hx hZ hown (host := "") (Or.inl (hw _ (List.mem_of_getElem? (i := 31) rfl))) Via.refl e7 (O0.fld (gJ_e hx8) rfl rfl) (g := (mkF m 19 #[.val (.ref (n0 + ob0))] [(.ref (n0 + ob0)), (.long x6)])) rfl rfl (hb hby d6_19)
    refine Gl.on (B := T9.setTop (mkF m 27 #[.val (.ref (n0 + ob0))] [(.int (lcmpW (x6 - x8) (16 : Int64)))])) (fun t k => ?_) ?_
    · show Steps p.tables e below (T4.setTop (mkF m 11 #[.val (.ref (n0 + ob0))] [(.int (lcmpW (x1 - x3) (0 : Int64)))])) _
      refine XS.ifNo X4.here hx rfl (hb hby d6_11) rfl ((if0 _ _).trans (flt (mt (lw_lt _ _).mp hc5)).1) ?_
      show Steps p.tables e below (T4.setTop (mkF m 14 #[.val (.ref (n0 + ob0))] [])) _
      refine XS.aloadN X4.here hx rfl (hb hby d6_14) rfl rfl ?_
      show Steps p.tables e below (T4.setTop (mkF m 15 #[.val (.ref (n0 + ob0))] [(.ref (n0 + ob0))])) _
      refine st7 _ ?_
      show Steps p.tables e below (T7.setTop (mkF m 18 #[.val (.ref (n0 + ob0))] [(.long x6)])) _
      refine XS.aloadN X7.here hx rfl (hb hby d6_18) rfl rfl ?_
      show Steps p.tables e below (T7.setTop (mkF m 19 #[.val (.ref (n0 + ob0))] [(.ref (n0 + ob0)), (.long x6)])) _
      refine st9 _ ?_
      show Steps p.tables e below (T9.setTop (mkF m 22 #[.val (.ref (n0 + ob0))] [(.long x8), (.long x6)])) _
      refine XS.lsub X9.here hx rfl (hb hby d6_22) rfl ?_
      show Steps p.tables e below (T9.setTop (mkF m 23 #[.val (.ref (n0 + ob0))] [(.long (x6 - x8))])) _
      refine X9.ldc2Long hx hown (mvT hZ (hw _ (List.mem_of_getElem? (i := 42) rfl))) (g := (mkF m 23 #[.val (.ref (n0 + ob0))] [(.long (x6 - x8))])) rfl (hb hby d6_23) _ ?_
      show Steps p.tables e below (T9.setTop (mkF m 26 #[.val (.ref (n0 + ob0))] [(.long (16 : Int64)), (.long (x6 - x8))])) _
      refine XS.lcmp X9.here hx rfl (hb hby d6_26) rfl ?_
      exact k
    by_cases hc10 : (x6 - x8) < (16 : Int64)
    · rw [if_pos hc10] at hf
      refine Gl.on (B := T9.setTop (mkF m 35 #[.val (.ref (n0 + ob0))] [(.int (1 : Int32))])) (fun t k => ?_) ?_
      · show Steps p.tables e below (T9.setTop (mkF m 27 #[.val (.ref (n0 + ob0))] [(.int (lcmpW (x6 - x8) (16 : Int64)))])) _
        refine XS.ifNo X9.here hx rfl (hb hby d6_27) rfl ((if0 _ _).trans (tlt ((lw_lt _ _).mpr hc10)).2.1) ?_
        show Steps p.tables e below (T9.setTop (mkF m 30 #[.val (.ref (n0 + ob0))] [])) _
        refine XS.iconst X9.here hx rfl (hb hby d6_30) ?_
        show Steps p.tables e below (T9.setTop (mkF m 31 #[.val (.ref (n0 + ob0))] [(.int (1 : Int32))])) _
        refine XS.goto X9.here hx rfl (pc0 := 31) (pc' := 35) rfl (hb hby d6_31) (by decide) (by decide) ?_
        exact k
      obtain ⟨rfl, rfl⟩ := own_inj hf
      exact Gl.outN X9 hx hlk (t := .boolean) hret (by simp) (hb hby d6_35) ⟨rfl, N0, by rw [e9]; exact O0⟩ (by show _ ≤ 0; omega) (by show _ ≤ 0; omega)
    · rw [if_neg hc10] at hf
      refine Gl.on (B := T9.setTop (mkF m 35 #[.val (.ref (n0 + ob0))] [(.int (0 : Int32))])) (fun t k => ?_) ?_
      · show Steps p.tables e below (T9.setTop (mkF m 27 #[.val (.ref (n0 + ob0))] [(.int (lcmpW (x6 - x8) (16 : Int64)))])) _
        refine XS.ifYes X9.here hx rfl (pc0 := 27) (pc' := 34) rfl (hb hby d6_27) rfl ((if0 _ _).trans (flt (mt (lw_lt _ _).mp hc10)).2.1) (by decide) (by decide) ?_
        show Steps p.tables e below (T9.setTop (mkF m 34 #[.val (.ref (n0 + ob0))] [])) _
        refine XS.iconst X9.here hx rfl (hb hby d6_34) ?_
        exact k
      obtain ⟨rfl, rfl⟩ := own_inj hf
      exact Gl.outN X9 hx hlk (t := .boolean) hret (by simp) (hb hby d6_35) ⟨rfl, N0, by rw [e9]; exact O0⟩ (by show _ ≤ 0; omega) (by show _ ≤ 0; omega)
theorem pd_1 : parseMethodDescriptor "(JJ)J" = some ⟨[.long, .long], some .long⟩ := by decide +kernel
theorem pd_2 : parseMethodDescriptor "(Ljava/lang/String;JJ)V" = some ⟨[(.object "java/lang/String"), .long, .long], none⟩ := by decide +kernel
theorem pd_3 : parseMethodDescriptor "()Z" = some ⟨[], some .boolean⟩ := by decide +kernel
theorem pn_0 : plainName "com/example/pathweave/pathweave/core/RangeTriedWholePinLaw" = true := by first | (simp [plainName, overriddenIn]; done) | decide +kernel
def b0_106 (D : Hp) (ob11 : Nat) (t0 : Int32) : Option (Int32 × Hp) :=
  (ck D ob11 1).bind fun u19 => (f6 D ob11).bind fun q18 => own_let q18.1 fun x20 => own_let q18.2 fun D18 =>
  if x20 = t0 then (some ((1 : Int32), D18)) else (some ((0 : Int32), D18))
set_option maxRecDepth 65536 in
set_option maxHeartbeats 40000000 in
theorem bt0_106 {p : Program} {l : Launch} {e : Env} {s : State} {m : MethodId} {args : Array Value} {below : List Frame} {meth : Method} {c : Code} {Z : State} {a0 : Array Value} {n0 : Nat} {D' : Hp} {r : Int32} {T0 : State} {locs : List Loc} {cells slots : Nat} {h0 : Heap} {D : Hp} {j0 : Int64} {j2 : Int64} {j4 : Int64} {i6 : Int32} {j7 : Int64} {j9 : Int64} {ob11 : Nat} {t0 : Int32} {vm0 : Vm} {k0 : Nat} (hw : ∀ d ∈ tables_1, d.before a0 Z = true) (hC : Cx p (s.setVm vm0) m meth c Z code maxLocals ret "com/example/pathweave/pathweave/core/RangeTriedWholePinLaw" "law") (X0 : Stand p l e room_1 (s.setVm vm0) m args below meth c T0 locs cells slots) (e0 : T0.heap = h0) (O0 : Ow Kt1 Z h0 n0 D) (N0 : Fr n0 locs) (hS : s.Since vm0 k0) (hk : k0 ≤ h0.size) (hcc : cells ≤ 3) (hss : slots ≤ 11) (hf : b0_106 D ob11 t0 = some (r, D')) : GlW p e below s 16 1152 (Qw Kt1 Z n0 (some (.int r)) D') (T0.setTop (mkF m 106 #[.val (.long j0), .second, .val (.long j2), .second, .val (.long j4), .second, .val (.int i6), .val (.long j7), .second, .val (.long j9), .second, .val (.ref (n0 + ob11)), .unset] [(.int t0)])) := by
  obtain ⟨hx, hZ, hby, hml, hown, hnm, hret, hlk⟩ := id hC
  have hml : c.maxLocals = 13 := hml
  rw [b0_106] at hf
  obtain ⟨u19, hk18, hf⟩ := own_bind hf
  obtain ⟨⟨x20, D18⟩, hq18, hf⟩ := own_bind hf
  obtain ⟨_, rfl, hf⟩ := own_letE hf
  obtain ⟨_, rfl, hf⟩ := own_letE hf
  obtain ⟨T18, h18, L18, X18, e18, z18, O18, N18, st18⟩ := callVW X0 hx hZ (y := (⟨"com/example/pathweave/pathweave/core/Parameter$Range", "triedWhole", "()Z"⟩ : MethodName)) hown (hw _ (List.mem_of_getElem? (i := 37) rfl)) (hw _ (List.mem_of_getElem? (i := 38) rfl)) (hw _ (List.mem_of_getElem? (i := 40) rfl)) (hw _ (List.mem_of_getElem? (i := 39) rfl)) (hw _ (List.mem_of_getElem? (i := 9) rfl)) (hw _ (List.mem_of_getElem? (i := 41) rfl)) (by decide) e0 O0 N0 hk18 rfl (as' := []) (ct6 hw hq18) (W := 0) (kc := 0) (ks := 0) rfl rfl (by decide) (by decide) (g := (mkF m 110 #[.val (.long j0), .second, .val (.long j2), .second, .val (.long j4), .second, .val (.int i6), .val (.long j7), .second, .val (.long j9), .second, .val (.ref (n0 + ob11)), .val (.int t0)] [(.ref (n0 + ob11))])) rfl (by rw [hml]; rfl) (rest := []) (lenOf pd_3 rfl) rfl (by show 2 * 0 + _ ≤ _; exact Nat.le_of_eq rfl) (hb hby at_110) (by show _ + 0 ≤ 16; omega) (by show _ + 0 ≤ 1152; omega)
  refine GlW.on (B := T18.setTop (mkF m 115 #[.val (.long j0), .second, .val (.long j2), .second, .val (.long j4), .second, .val (.int i6), .val (.long j7), .second, .val (.long j9), .second, .val (.ref (n0 + ob11)), .val (.int t0)] [(.int t0), (.int x20)])) (fun t k => ?_) ?_
  · show Steps p.tables e below (T0.setTop (mkF m 106 #[.val (.long j0), .second, .val (.long j2), .second, .val (.long j4), .second, .val (.int i6), .val (.long j7), .second, .val (.long j9), .second, .val (.ref (n0 + ob11)), .unset] [(.int t0)])) _
    refine XS.istore X0.here hx rfl (hb hby at_106) rfl (l' := #[.val (.long j0), .second, .val (.long j2), .second, .val (.long j4), .second, .val (.int i6), .val (.long j7), .second, .val (.long j9), .second, .val (.ref (n0 + ob11)), .val (.int t0)]) rfl ?_
    show Steps p.tables e below (T0.setTop (mkF m 108 #[.val (.long j0), .second, .val (.long j2), .second, .val (.long j4), .second, .val (.int i6), .val (.long j7), .second, .val (.long j9), .second, .val (.ref (n0 + ob11)), .val (.int t0)] [])) _
    refine XS.aload X0.here hx rfl (hb hby at_108) rfl rfl ?_
    show Steps p.tables e below (T0.setTop (mkF m 110 #[.val (.long j0), .second, .val (.long j2), .second, .val (.long j4), .second, .val (.int i6), .val (.long j7), .second, .val (.long j9), .second, .val (.ref (n0 + ob11)), .val (.int t0)] [(.ref (n0 + ob11))])) _
    refine st18 _ ?_
    show Steps p.tables e below (T18.setTop (mkF m 113 #[.val (.long j0), .second, .val (.long j2), .second, .val (.long j4), .second, .val (.int i6), .val (.long j7), .second, .val (.long j9), .second, .val (.ref (n0 + ob11)), .val (.int t0)] [(.int x20)])) _
    refine XS.iload X18.here hx rfl (hb hby at_113) rfl ?_
    exact k
  by_cases hc21 : x20 = t0
  · rw [if_pos hc21] at hf
    refine GlW.on (B := T18.setTop (mkF m 123 #[.val (.long j0), .second, .val (.long j2), .second, .val (.long j4), .second, .val (.int i6), .val (.long j7), .second, .val (.long j9), .second, .val (.ref (n0 + ob11)), .val (.int t0)] [(.int (1 : Int32))])) (fun t k => ?_) ?_
    · show Steps p.tables e below (T18.setTop (mkF m 115 #[.val (.long j0), .second, .val (.long j2), .second, .val (.long j4), .second, .val (.int i6), .val (.long j7), .second, .val (.long j9), .second, .val (.ref (n0 + ob11)), .val (.int t0)] [(.int t0), (.int x20)])) _
      refine XS.icmpNo X18.here hx rfl (hb hby at_115) rfl (teq hc21).2 ?_
      show Steps p.tables e below (T18.setTop (mkF m 118 #[.val (.long j0), .second, .val (.long j2), .second, .val (.long j4), .second, .val (.int i6), .val (.long j7), .second, .val (.long j9), .second, .val (.ref (n0 + ob11)), .val (.int t0)] [])) _
      refine XS.iconst X18.here hx rfl (hb hby at_118) ?_
      show Steps p.tables e below (T18.setTop (mkF m 119 #[.val (.long j0), .second, .val (.long j2), .second, .val (.long j4), .second, .val (.int i6), .val (.long j7), .second, .val (.long j9), .second, .val (.ref (n0 + ob11)), .val (.int t0)] [(.int (1 : Int32))])) _
      refine XS.goto X18.here hx rfl (pc0 := 119) (pc' := 123) rfl (hb hby at_119) (by decide) (by decide) ?_
      exact k
    obtain ⟨rfl, rfl⟩ := own_inj hf
    exact GlW.outN X18 hS (by rw [e18]; exact (Nat.le_trans hk z18)) hx hlk (t := .boolean) hret (by simp) (hb hby at_123) ⟨rfl, N18, by rw [e18]; exact O18⟩ (by show _ ≤ 16; omega) (by show _ ≤ 1152; omega)
  · rw [if_neg hc21] at hf
    refine GlW.on (B := T18.setTop (mkF m 123 #[.val (.long j0), .second, .val (.long j2), .second, .val (.long j4), .second, .val (.int i6), .val (.long j7), .second, .val (.long j9), .second, .val (.ref (n0 + ob11)), .val (.int t0)] [(.int (0 : Int32))])) (fun t k => ?_) ?_
    · show Steps p.tables e below (T18.setTop (mkF m 115 #[.val (.long j0), .second, .val (.long j2), .second, .val (.long j4), .second, .val (.int i6), .val (.long j7), .second, .val (.long j9), .second, .val (.ref (n0 + ob11)), .val (.int t0)] [(.int t0), (.int x20)])) _
      refine XS.icmpYes X18.here hx rfl (pc0 := 115) (pc' := 122) rfl (hb hby at_115) rfl (feq hc21).2 (by decide) (by decide) ?_
      show Steps p.tables e below (T18.setTop (mkF m 122 #[.val (.long j0), .second, .val (.long j2), .second, .val (.long j4), .second, .val (.int i6), .val (.long j7), .second, .val (.long j9), .second, .val (.ref (n0 + ob11)), .val (.int t0)] [])) _
      refine XS.iconst X18.here hx rfl (hb hby at_122) ?_
      exact k
    obtain ⟨rfl, rfl⟩ := own_inj hf
    exact GlW.outN X18 hS (by rw [e18]; exact (Nat.le_trans hk z18)) hx hlk (t := .boolean) hret (by simp) (hb hby at_123) ⟨rfl, N18, by rw [e18]; exact O18⟩ (by show _ ≤ 16; omega) (by show _ ≤ 1152; omega)
def b0_59 (D : Hp) (j7 : Int64) (j9 : Int64) : Option (Int32 × Hp) :=
  (nm D).bind fun m9 => own_let (D.length) fun a9 => own_let (D ++ [(1, [(.long (0 : Int64)), (.long (0 : Int64))])]) fun D9 =>
  own_let (D9 ++ [(98, [])]) fun D10 =>
  (f3 D10 a9 j7 j9).bind fun D11 =>
  if (9223372036854775792 : Int64) < j7 then ((ck D11 a9 1).bind fun u14 => (f6 D11 a9).bind fun q13 => own_let q13.1 fun x15 => own_let q13.2 fun D13 =>
  if x15 = (1 : Int32) then (some ((1 : Int32), D13)) else (some ((0 : Int32), D13))) else (if (j7 + (15 : Int64)) < j9 then (b0_106 D11 a9 (0 : Int32)) else (b0_106 D11 a9 (1 : Int32)))
set_option maxRecDepth 65536 in
set_option maxHeartbeats 40000000 in
theorem bt0_59 {p : Program} {l : Launch} {e : Env} {s : State} {m : MethodId} {args : Array Value} {below : List Frame} {meth : Method} {c : Code} {Z : State} {a0 : Array Value} {n0 : Nat} {D' : Hp} {r : Int32} {T0 : State} {locs : List Loc} {cells slots : Nat} {h0 : Heap} {D : Hp} {j0 : Int64} {j2 : Int64} {j4 : Int64} {i6 : Int32} {j7 : Int64} {j9 : Int64} {s11 : Slot} {s12 : Slot} {vm0 : Vm} {k0 : Nat} (hw : ∀ d ∈ tables_1, d.before a0 Z = true) (hC : Cx p (s.setVm vm0) m meth c Z code maxLocals ret "com/example/pathweave/pathweave/core/RangeTriedWholePinLaw" "law") (X0 : Stand p l e room_1 (s.setVm vm0) m args below meth c T0 locs cells slots) (e0 : T0.heap = h0) (O0 : Ow Kt1 Z h0 n0 D) (N0 : Fr n0 locs) (hS : s.Since vm0 k0) (hk : k0 ≤ h0.size) (hcc : cells ≤ 0) (hss : slots ≤ 0) (hs11 : Two s11 s12) (hf : b0_59 D j7 j9 = some (r, D')) : GlW p e below s 16 1152 (Qw Kt1 Z n0 (some (.int r)) D') (T0.setTop (mkF m 59 #[.val (.long j0), .second, .val (.long j2), .second, .val (.long j4), .second, .val (.int i6), .val (.long j7), .second, .val (.long j9), .second, s11, s12] [])) := by
  obtain ⟨hx, hZ, hby, hml, hown, hnm, hret, hlk⟩ := id hC
  have hml : c.maxLocals = 13 := hml
  rw [b0_59] at hf
  obtain ⟨m9, hm9, hf⟩ := own_bind hf
  obtain ⟨a9, ha9, hf⟩ := own_letE hf
  obtain ⟨D9, hD9, hf⟩ := own_letE hf
  obtain ⟨T9, h9, X9, e9, z9, O9, st9⟩ := newW X0 hx hZ hown (hw _ (List.mem_of_getElem? (i := 7) rfl)) (hw _ (List.mem_of_getElem? (i := 8) rfl)) (hw _ (List.mem_of_getElem? (i := 9) rfl)) (lay1 hw) e0 O0 hm9 (t := 1) rfl (ds := [(.long (0 : Int64)), (.long (0 : Int64))]) (by decide) (g := (mkF m 59 #[.val (.long j0), .second, .val (.long j2), .second, .val (.long j4), .second, .val (.int i6), .val (.long j7), .second, .val (.long j9), .second, s11, s12] [])) rfl (hb hby at_59) (by show _ + 1 ≤ 16; omega) (by show _ + 3 ≤ 1152; omega)
  rw [ha9] at st9
  rw [hD9] at O9
  refine GlW.on (B := T9.setTop (mkF m 63 #[.val (.long j0), .second, .val (.long j2), .second, .val (.long j4), .second, .val (.int i6), .val (.long j7), .second, .val (.long j9), .second, s11, s12] [(.ref (n0 + a9)), (.ref (n0 + a9))])) (fun t k => ?_) ?_
  · show Steps p.tables e below (T0.setTop (mkF m 59 #[.val (.long j0), .second, .val (.long j2), .second, .val (.long j4), .second, .val (.int i6), .val (.long j7), .second, .val (.long j9), .second, s11, s12] [])) _
    refine st9 _ ?_
    show Steps p.tables e below (T9.setTop (mkF m 62 #[.val (.long j0), .second, .val (.long j2), .second, .val (.long j4), .second, .val (.int i6), .val (.long j7), .second, .val (.long j9), .second, s11, s12] [(.ref (n0 + a9))])) _
    refine XS.dup X9.here hx rfl (hb hby at_62) rfl rfl ?_
    exact k
  obtain ⟨D10, hD10, hf⟩ := own_letE hf
  obtain ⟨sa10, T10, h10, k10, X10, e10, O10, hS, hk10, hZ, hown, st10⟩ := ldcW X9 hx hZ hown (hw _ (List.mem_of_getElem? (i := 10) rfl)) (fun d hd => hw d (own_strs d hd)) e9 O9 rfl hS (Nat.le_trans hk z9) (g := (mkF m 63 #[.val (.long j0), .second, .val (.long j2), .second, .val (.long j4), .second, .val (.int i6), .val (.long j7), .second, .val (.long j9), .second, s11, s12] [(.ref (n0 + a9)), (.ref (n0 + a9))])) rfl (hb hby at_63) (n := 4) (by decide) (by decide) (by show _ + 2 ≤ 16; omega) (by show _ + (4 + 4) ≤ 1152; omega)
  rw [hD10] at O10
  have hC := (⟨hx, hZ, hby, hml, hown, hnm, hret, hlk⟩ : Cx p (s.setVm T10.vm) m meth c Z code maxLocals ret "com/example/pathweave/pathweave/core/RangeTriedWholePinLaw" "law")
  obtain ⟨D11, hq11, hf⟩ := own_bind hf
  obtain ⟨T11, h11, L11, X11, e11, z11, O11, N11, st11⟩ := callIW X10 hx hZ (y := (⟨"com/example/pathweave/pathweave/core/Parameter$Range", "<init>", "(Ljava/lang/String;JJ)V"⟩ : MethodName)) rfl hown (hw _ (List.mem_of_getElem? (i := 18) rfl)) (hw _ (List.mem_of_getElem? (i := 19) rfl)) (hw _ (List.mem_of_getElem? (i := 9) rfl)) (hw _ (List.mem_of_getElem? (i := 20) rfl)) (by decide) e10 O10 N0 (as' := [(.ref sa10), (.long j7), (.long j9)]) (ct3 hw hq11) (W := 1) (kc := 0) (ks := 0) rfl rfl (by decide) (by decide) (g := (mkF m 69 #[.val (.long j0), .second, .val (.long j2), .second, .val (.long j4), .second, .val (.int i6), .val (.long j7), .second, .val (.long j9), .second, s11, s12] [(.long j9), (.long j7), (.ref sa10), (.ref (n0 + a9)), (.ref (n0 + a9))])) rfl (by rw [hml]; rfl) (rest := [(.ref (n0 + a9))]) (lenOf pd_2 rfl) rfl (by show 2 * 0 + _ ≤ _; exact Nat.le_of_eq rfl) (hb hby at_69) (by show _ + 0 ≤ 16; omega) (by show _ + 0 ≤ 1152; omega)
  refine GlW.on (B := T11.setTop (mkF m 80 #[.val (.long j0), .second, .val (.long j2), .second, .val (.long j4), .second, .val (.int i6), .val (.long j7), .second, .val (.long j9), .second, .val (.ref (n0 + a9)), .unset] [(.int (lcmpW j7 (9223372036854775792 : Int64)))])) (fun t k => ?_) ?_
  · show Steps p.tables e below (T9.setTop (mkF m 63 #[.val (.long j0), .second, .val (.long j2), .second, .val (.long j4), .second, .val (.int i6), .val (.long j7), .second, .val (.long j9), .second, s11, s12] [(.ref (n0 + a9)), (.ref (n0 + a9))])) _
    refine st10 _ ?_
    show Steps p.tables e below (T10.setTop (mkF m 65 #[.val (.long j0), .second, .val (.long j2), .second, .val (.long j4), .second, .val (.int i6), .val (.long j7), .second, .val (.long j9), .second, s11, s12] [(.ref sa10), (.ref (n0 + a9)), (.ref (n0 + a9))])) _
    refine XS.lload X10.here hx rfl (hb hby at_65) rfl ?_
    show Steps p.tables e below (T10.setTop (mkF m 67 #[.val (.long j0), .second, .val (.long j2), .second, .val (.long j4), .second, .val (.int i6), .val (.long j7), .second, .val (.long j9), .second, s11, s12] [(.long j7), (.ref sa10), (.ref (n0 + a9)), (.ref (n0 + a9))])) _
    refine XS.lload X10.here hx rfl (hb hby at_67) rfl ?_
    show Steps p.tables e below (T10.setTop (mkF m 69 #[.val (.long j0), .second, .val (.long j2), .second, .val (.long j4), .second, .val (.int i6), .val (.long j7), .second, .val (.long j9), .second, s11, s12] [(.long j9), (.long j7), (.ref sa10), (.ref (n0 + a9)), (.ref (n0 + a9))])) _
    refine st11 _ ?_
    show Steps p.tables e below (T11.setTop (mkF m 72 #[.val (.long j0), .second, .val (.long j2), .second, .val (.long j4), .second, .val (.int i6), .val (.long j7), .second, .val (.long j9), .second, s11, s12] [(.ref (n0 + a9))])) _
    refine XS.astore X11.here hx rfl (hb hby at_72) rfl rfl (l' := #[.val (.long j0), .second, .val (.long j2), .second, .val (.long j4), .second, .val (.int i6), .val (.long j7), .second, .val (.long j9), .second, .val (.ref (n0 + a9)), .unset]) (by rcases hs11 with ⟨rfl, rfl⟩ | ⟨_, rfl, rfl⟩ <;> rfl) ?_
    show Steps p.tables e below (T11.setTop (mkF m 74 #[.val (.long j0), .second, .val (.long j2), .second, .val (.long j4), .second, .val (.int i6), .val (.long j7), .second, .val (.long j9), .second, .val (.ref (n0 + a9)), .unset] [])) _
    refine XS.lload X11.here hx rfl (hb hby at_74) rfl ?_
    show Steps p.tables e below (T11.setTop (mkF m 76 #[.val (.long j0), .second, .val (.long j2), .second, .val (.long j4), .second, .val (.int i6), .val (.long j7), .second, .val (.long j9), .second, .val (.ref (n0 + a9)), .unset] [(.long j7)])) _
    refine X11.ldc2Long hx hown (mvT hZ (hw _ (List.mem_of_getElem? (i := 35) rfl))) (g := (mkF m 76 #[.val (.long j0), .second, .val (.long j2), .second, .val (.long j4), .second, .val (.int i6), .val (.long j7), .second, .val (.long j9), .second, .val (.ref (n0 + a9)), .unset] [(.long j7)])) rfl (hb hby at_76) _ ?_
    show Steps p.tables e below (T11.setTop (mkF m 79 #[.val (.long j0), .second, .val (.long j2), .second, .val (.long j4), .second, .val (.int i6), .val (.long j7), .second, .val (.long j9), .second, .val (.ref (n0 + a9)), .unset] [(.long (9223372036854775792 : Int64)), (.long j7)])) _
    refine XS.lcmp X11.here hx rfl (hb hby at_79) rfl ?_
    exact k
  by_cases hc12 : (9223372036854775792 : Int64) < j7
  · rw [if_pos hc12] at hf
    obtain ⟨u14, hk13, hf⟩ := own_bind hf
    obtain ⟨⟨x15, D13⟩, hq13, hf⟩ := own_bind hf
    obtain ⟨_, rfl, hf⟩ := own_letE hf
    obtain ⟨_, rfl, hf⟩ := own_letE hf
    obtain ⟨T13, h13, L13, X13, e13, z13, O13, N13, st13⟩ := callVW X11 hx hZ (y := (⟨"com/example/pathweave/pathweave/core/Parameter$Range", "triedWhole", "()Z"⟩ : MethodName)) hown (hw _ (List.mem_of_getElem? (i := 37) rfl)) (hw _ (List.mem_of_getElem? (i := 38) rfl)) (hw _ (List.mem_of_getElem? (i := 40) rfl)) (hw _ (List.mem_of_getElem? (i := 39) rfl)) (hw _ (List.mem_of_getElem? (i := 9) rfl)) (hw _ (List.mem_of_getElem? (i := 41) rfl)) (by decide) e11 O11 N11 hk13 rfl (as' := []) (ct6 hw hq13) (W := 0) (kc := 0) (ks := 0) rfl rfl (by decide) (by decide) (g := (mkF m 110 #[.val (.long j0), .second, .val (.long j2), .second, .val (.long j4), .second, .val (.int i6), .val (.long j7), .second, .val (.long j9), .second, .val (.ref (n0 + a9)), .val (.int (1 : Int32))] [(.ref (n0 + a9))])) rfl (by rw [hml]; rfl) (rest := []) (lenOf pd_3 rfl) rfl (by show 2 * 0 + _ ≤ _; exact Nat.le_of_eq rfl) (hb hby at_110) (by show _ + 0 ≤ 16; omega) (by show _ + 0 ≤ 1152; omega)
    refine GlW.on (B := T13.setTop (mkF m 115 #[.val (.long j0), .second, .val (.long j2), .second, .val (.long j4), .second, .val (.int i6), .val (.long j7), .second, .val (.long j9), .second, .val (.ref (n0 + a9)), .val (.int (1 : Int32))] [(.int (1 : Int32)), (.int x15)])) (fun t k => ?_) ?_
    · show Steps p.tables e below (T11.setTop (mkF m 80 #[.val (.long j0), .second, .val (.long j2), .second, .val (.long j4), .second, .val (.int i6), .val (.long j7), .second, .val (.long j9), .second, .val (.ref (n0 + a9)), .unset] [(.int (lcmpW j7 (9223372036854775792 : Int64)))])) _
      refine XS.ifNo X11.here hx rfl (hb hby at_80) rfl ((if0 _ _).trans (tlt ((lw_gt _ _).mpr hc12)).2.2.2) ?_
      show Steps p.tables e below (T11.setTop (mkF m 83 #[.val (.long j0), .second, .val (.long j2), .second, .val (.long j4), .second, .val (.int i6), .val (.long j7), .second, .val (.long j9), .second, .val (.ref (n0 + a9)), .unset] [])) _
      refine XS.iconst X11.here hx rfl (hb hby at_83) ?_
      show Steps p.tables e below (T11.setTop (mkF m 84 #[.val (.long j0), .second, .val (.long j2), .second, .val (.long j4), .second, .val (.int i6), .val (.long j7), .second, .val (.long j9), .second, .val (.ref (n0 + a9)), .unset] [(.int (1 : Int32))])) _
      refine XS.istore X11.here hx rfl (hb hby at_84) rfl (l' := #[.val (.long j0), .second, .val (.long j2), .second, .val (.long j4), .second, .val (.int i6), .val (.long j7), .second, .val (.long j9), .second, .val (.ref (n0 + a9)), .val (.int (1 : Int32))]) rfl ?_
      show Steps p.tables e below (T11.setTop (mkF m 86 #[.val (.long j0), .second, .val (.long j2), .second, .val (.long j4), .second, .val (.int i6), .val (.long j7), .second, .val (.long j9), .second, .val (.ref (n0 + a9)), .val (.int (1 : Int32))] [])) _
      refine XS.goto X11.here hx rfl (pc0 := 86) (pc' := 108) rfl (hb hby at_86) (by decide) (by decide) ?_
      show Steps p.tables e below (T11.setTop (mkF m 108 #[.val (.long j0), .second, .val (.long j2), .second, .val (.long j4), .second, .val (.int i6), .val (.long j7), .second, .val (.long j9), .second, .val (.ref (n0 + a9)), .val (.int (1 : Int32))] [])) _
      refine XS.aload X11.here hx rfl (hb hby at_108) rfl rfl ?_
      show Steps p.tables e below (T11.setTop (mkF m 110 #[.val (.long j0), .second, .val (.long j2), .second, .val (.long j4), .second, .val (.int i6), .val (.long j7), .second, .val (.long j9), .second, .val (.ref (n0 + a9)), .val (.int (1 : Int32))] [(.ref (n0 + a9))])) _
      refine st13 _ ?_
      show Steps p.tables e below (T13.setTop (mkF m 113 #[.val (.long j0), .second, .val (.long j2), .second, .val (.long j4), .second, .val (.int i6), .val (.long j7), .second, .val (.long j9), .second, .val (.ref (n0 + a9)), .val (.int (1 : Int32))] [(.int x15)])) _
      refine XS.iload X13.here hx rfl (hb hby at_113) rfl ?_
      exact k
    by_cases hc16 : x15 = (1 : Int32)
    · rw [if_pos hc16] at hf
      refine GlW.on (B := T13.setTop (mkF m 123 #[.val (.long j0), .second, .val (.long j2), .second, .val (.long j4), .second, .val (.int i6), .val (.long j7), .second, .val (.long j9), .second, .val (.ref (n0 + a9)), .val (.int (1 : Int32))] [(.int (1 : Int32))])) (fun t k => ?_) ?_
      · show Steps p.tables e below (T13.setTop (mkF m 115 #[.val (.long j0), .second, .val (.long j2), .second, .val (.long j4), .second, .val (.int i6), .val (.long j7), .second, .val (.long j9), .second, .val (.ref (n0 + a9)), .val (.int (1 : Int32))] [(.int (1 : Int32)), (.int x15)])) _
        refine XS.icmpNo X13.here hx rfl (hb hby at_115) rfl (teq hc16).2 ?_
        show Steps p.tables e below (T13.setTop (mkF m 118 #[.val (.long j0), .second, .val (.long j2), .second, .val (.long j4), .second, .val (.int i6), .val (.long j7), .second, .val (.long j9), .second, .val (.ref (n0 + a9)), .val (.int (1 : Int32))] [])) _
        refine XS.iconst X13.here hx rfl (hb hby at_118) ?_
        show Steps p.tables e below (T13.setTop (mkF m 119 #[.val (.long j0), .second, .val (.long j2), .second, .val (.long j4), .second, .val (.int i6), .val (.long j7), .second, .val (.long j9), .second, .val (.ref (n0 + a9)), .val (.int (1 : Int32))] [(.int (1 : Int32))])) _
        refine XS.goto X13.here hx rfl (pc0 := 119) (pc' := 123) rfl (hb hby at_119) (by decide) (by decide) ?_
        exact k
      obtain ⟨rfl, rfl⟩ := own_inj hf
      exact GlW.outN X13 hS (by rw [e13]; exact (Nat.le_trans (Nat.le_trans hk10 z11) z13)) hx hlk (t := .boolean) hret (by simp) (hb hby at_123) ⟨rfl, N13, by rw [e13]; exact O13⟩ (by show _ ≤ 16; omega) (by show _ ≤ 1152; omega)
    · rw [if_neg hc16] at hf
      refine GlW.on (B := T13.setTop (mkF m 123 #[.val (.long j0), .second, .val (.long j2), .second, .val (.long j4), .second, .val (.int i6), .val (.long j7), .second, .val (.long j9), .second, .val (.ref (n0 + a9)), .val (.int (1 : Int32))] [(.int (0 : Int32))])) (fun t k => ?_) ?_
      · show Steps p.tables e below (T13.setTop (mkF m 115 #[.val (.long j0), .second, .val (.long j2), .second, .val (.long j4), .second, .val (.int i6), .val (.long j7), .second, .val (.long j9), .second, .val (.ref (n0 + a9)), .val (.int (1 : Int32))] [(.int (1 : Int32)), (.int x15)])) _
        refine XS.icmpYes X13.here hx rfl (pc0 := 115) (pc' := 122) rfl (hb hby at_115) rfl (feq hc16).2 (by decide) (by decide) ?_
        show Steps p.tables e below (T13.setTop (mkF m 122 #[.val (.long j0), .second, .val (.long j2), .second, .val (.long j4), .second, .val (.int i6), .val (.long j7), .second, .val (.long j9), .second, .val (.ref (n0 + a9)), .val (.int (1 : Int32))] [])) _
        refine XS.iconst X13.here hx rfl (hb hby at_122) ?_
        exact k
      obtain ⟨rfl, rfl⟩ := own_inj hf
      exact GlW.outN X13 hS (by rw [e13]; exact (Nat.le_trans (Nat.le_trans hk10 z11) z13)) hx hlk (t := .boolean) hret (by simp) (hb hby at_123) ⟨rfl, N13, by rw [e13]; exact O13⟩ (by show _ ≤ 16; omega) (by show _ ≤ 1152; omega)
  · rw [if_neg hc12] at hf
    refine GlW.on (B := T11.setTop (mkF m 98 #[.val (.long j0), .second, .val (.long j2), .second, .val (.long j4), .second, .val (.int i6), .val (.long j7), .second, .val (.long j9), .second, .val (.ref (n0 + a9)), .unset] [(.int (lcmpW j9 (j7 + (15 : Int64))))])) (fun t k => ?_) ?_
    · show Steps p.tables e below (T11.setTop (mkF m 80 #[.val (.long j0), .second, .val (.long j2), .second, .val (.long j4), .second, .val (.int i6), .val (.long j7), .second, .val (.long j9), .second, .val (.ref (n0 + a9)), .unset] [(.int (lcmpW j7 (9223372036854775792 : Int64)))])) _
      refine XS.ifYes X11.here hx rfl (pc0 := 80) (pc' := 89) rfl (hb hby at_80) rfl ((if0 _ _).trans (flt (mt (lw_gt _ _).mp hc12)).2.2.2) (by decide) (by decide) ?_
      show Steps p.tables e below (T11.setTop (mkF m 89 #[.val (.long j0), .second, .val (.long j2), .second, .val (.long j4), .second, .val (.int i6), .val (.long j7), .second, .val (.long j9), .second, .val (.ref (n0 + a9)), .unset] [])) _
      refine XS.lload X11.here hx rfl (hb hby at_89) rfl ?_
      show Steps p.tables e below (T11.setTop (mkF m 91 #[.val (.long j0), .second, .val (.long j2), .second, .val (.long j4), .second, .val (.int i6), .val (.long j7), .second, .val (.long j9), .second, .val (.ref (n0 + a9)), .unset] [(.long j9)])) _
      refine XS.lload X11.here hx rfl (hb hby at_91) rfl ?_
      show Steps p.tables e below (T11.setTop (mkF m 93 #[.val (.long j0), .second, .val (.long j2), .second, .val (.long j4), .second, .val (.int i6), .val (.long j7), .second, .val (.long j9), .second, .val (.ref (n0 + a9)), .unset] [(.long j7), (.long j9)])) _
      refine X11.ldc2Long hx hown (mvT hZ (hw _ (List.mem_of_getElem? (i := 36) rfl))) (g := (mkF m 93 #[.val (.long j0), .second, .val (.long j2), .second, .val (.long j4), .second, .val (.int i6), .val (.long j7), .second, .val (.long j9), .second, .val (.ref (n0 + a9)), .unset] [(.long j7), (.long j9)])) rfl (hb hby at_93) _ ?_
      show Steps p.tables e below (T11.setTop (mkF m 96 #[.val (.long j0), .second, .val (.long j2), .second, .val (.long j4), .second, .val (.int i6), .val (.long j7), .second, .val (.long j9), .second, .val (.ref (n0 + a9)), .unset] [(.long (15 : Int64)), (.long j7), (.long j9)])) _
      refine XS.ladd X11.here hx rfl (hb hby at_96) rfl ?_
      show Steps p.tables e below (T11.setTop (mkF m 97 #[.val (.long j0), .second, .val (.long j2), .second, .val (.long j4), .second, .val (.int i6), .val (.long j7), .second, .val (.long j9), .second, .val (.ref (n0 + a9)), .unset] [(.long (j7 + (15 : Int64))), (.long j9)])) _
      refine XS.lcmp X11.here hx rfl (hb hby at_97) rfl ?_
      exact k
    by_cases hc17 : (j7 + (15 : Int64)) < j9
    · rw [if_pos hc17] at hf
      refine GlW.on (B := T11.setTop (mkF m 106 #[.val (.long j0), .second, .val (.long j2), .second, .val (.long j4), .second, .val (.int i6), .val (.long j7), .second, .val (.long j9), .second, .val (.ref (n0 + a9)), .unset] [(.int (0 : Int32))])) (fun t k => ?_) ?_
      · show Steps p.tables e below (T11.setTop (mkF m 98 #[.val (.long j0), .second, .val (.long j2), .second, .val (.long j4), .second, .val (.int i6), .val (.long j7), .second, .val (.long j9), .second, .val (.ref (n0 + a9)), .unset] [(.int (lcmpW j9 (j7 + (15 : Int64))))])) _
        refine XS.ifYes X11.here hx rfl (pc0 := 98) (pc' := 105) rfl (hb hby at_98) rfl ((if0 _ _).trans (tlt ((lw_gt _ _).mpr hc17)).2.2.1) (by decide) (by decide) ?_
        show Steps p.tables e below (T11.setTop (mkF m 105 #[.val (.long j0), .second, .val (.long j2), .second, .val (.long j4), .second, .val (.int i6), .val (.long j7), .second, .val (.long j9), .second, .val (.ref (n0 + a9)), .unset] [])) _
        refine XS.iconst X11.here hx rfl (hb hby at_105) ?_
        exact k
      exact bt0_106 hw hC X11 e11 O11 N11 hS (Nat.le_trans hk10 z11) (by omega) (by omega) hf
    · rw [if_neg hc17] at hf
      refine GlW.on (B := T11.setTop (mkF m 106 #[.val (.long j0), .second, .val (.long j2), .second, .val (.long j4), .second, .val (.int i6), .val (.long j7), .second, .val (.long j9), .second, .val (.ref (n0 + a9)), .unset] [(.int (1 : Int32))])) (fun t k => ?_) ?_
      · show Steps p.tables e below (T11.setTop (mkF m 98 #[.val (.long j0), .second, .val (.long j2), .second, .val (.long j4), .second, .val (.int i6), .val (.long j7), .second, .val (.long j9), .second, .val (.ref (n0 + a9)), .unset] [(.int (lcmpW j9 (j7 + (15 : Int64))))])) _
        refine XS.ifNo X11.here hx rfl (hb hby at_98) rfl ((if0 _ _).trans (flt (mt (lw_gt _ _).mp hc17)).2.2.1) ?_
        show Steps p.tables e below (T11.setTop (mkF m 101 #[.val (.long j0), .second, .val (.long j2), .second, .val (.long j4), .second, .val (.int i6), .val (.long j7), .second, .val (.long j9), .second, .val (.ref (n0 + a9)), .unset] [])) _
        refine XS.iconst X11.here hx rfl (hb hby at_101) ?_
        show Steps p.tables e below (T11.setTop (mkF m 102 #[.val (.long j0), .second, .val (.long j2), .second, .val (.long j4), .second, .val (.int i6), .val (.long j7), .second, .val (.long j9), .second, .val (.ref (n0 + a9)), .unset] [(.int (1 : Int32))])) _
        refine XS.goto X11.here hx rfl (pc0 := 102) (pc' := 106) rfl (hb hby at_102) (by decide) (by decide) ?_
        exact k
      exact bt0_106 hw hC X11 e11 O11 N11 hS (Nat.le_trans hk10 z11) (by omega) (by omega) hf
def f0 (D : Hp) (j0 : Int64) (j2 : Int64) (j4 : Int64) (i6 : Int32) : Option (Int32 × Hp) :=
  (f1 D j0 j2).bind fun q1 => own_let q1.1 fun x2 => own_let q1.2 fun D1 =>
  if (i6 &&& (1 : Int32)) = (0 : Int32) then ((f2 D1 j0 j2).bind fun q4 => own_let q4.1 fun x5 => own_let q4.2 fun D4 =>
  b0_59 D4 x2 x5) else (own_let (j4 &&& (31 : Int64)) fun v6 =>
  if ((9223372036854775807 : Int64) - v6) < x2 then (b0_59 D1 x2 (9223372036854775807 : Int64)) else (own_let (x2 + v6) fun v8 =>
  b0_59 D1 x2 v8))
theorem ef_0 (m : MethodId) (j0 : Int64) (j2 : Int64) (j4 : Int64) (i6 : Int32) : entryFrame m #[(.long j0), (.long j2), (.long j4), (.int i6)] maxLocals = mkF m 0 #[.val (.long j0), .second, .val (.long j2), .second, .val (.long j4), .second, .val (.int i6), .unset, .unset, .unset, .unset, .unset, .unset] [] := by first | (simp [entryFrame, mkF, argsToLocals, Value.category, maxLocals]; done) | rfl
set_option maxRecDepth 65536 in
set_option maxHeartbeats 40000000 in
theorem ct0 {l : Launch} {Z : State} {a0 : Array Value} (hw : ∀ d ∈ tables_1, d.before a0 Z = true) {n0 : Nat} {D D' : Hp} {j0 : Int64} {j2 : Int64} {j4 : Int64} {i6 : Int32} {r : Int32} (hf : f0 D j0 j2 j4 i6 = some (r, D')) :
    CtW Kt1 l Z x (.code x code maxLocals ret) room_1 n0 D #[(.long j0), (.long j2), (.long j4), (.int i6)] (some (.int r)) D' := by
  refine CtW.of (plainFor_of_name pn_0) ?_
  intro p e s m below meth c T0 h0 hC X0 e0 O0 hS
  have hk : 0 ≤ h0.size := Nat.zero_le _
  obtain ⟨hx, hZ, hby, hml, hown, hnm, hret, hlk⟩ := id hC
  have hml : c.maxLocals = 13 := hml
  have hown : (s.setVm s.vm).vm.findClass "com/example/pathweave/pathweave/core/RangeTriedWholePinLaw" = some m.cls := hown
  have hnm : meth.name = "law" := hnm
  have N0 := Fr.nil n0
  refine GlW.on (fun t k => castTop (ef_0 m j0 j2 j4 i6) k) ?_
  rw [f0] at hf
  obtain ⟨⟨x2, D1⟩, hq1, hf⟩ := own_bind hf
  obtain ⟨_, rfl, hf⟩ := own_letE hf
  obtain ⟨_, rfl, hf⟩ := own_letE hf
  obtain ⟨T1, h1, L1, X1, e1, z1, O1, N1, st1⟩ := callSW X0 hx hZ (y := (⟨"java/lang/Math", "min", "(JJ)J"⟩ : MethodName)) hown (hw _ (List.mem_of_getElem? (i := 0) rfl)) (hw _ (List.mem_of_getElem? (i := 1) rfl)) (hw _ (List.mem_of_getElem? (i := 2) rfl)) (hw _ (List.mem_of_getElem? (i := 3) rfl)) (by decide) e0 O0 N0 (as' := [(.long j0), (.long j2)]) (ct1 hw hq1) (W := 0) (kc := 0) (ks := 0) rfl rfl (by decide) (by decide) (g := (mkF m 2 #[.val (.long j0), .second, .val (.long j2), .second, .val (.long j4), .second, .val (.int i6), .unset, .unset, .unset, .unset, .unset, .unset] [(.long j2), (.long j0)])) rfl (by rw [hml]; rfl) (rest := []) (lenOf pd_1 rfl) rfl (by show 2 * 0 + _ ≤ _; exact Nat.le_of_eq rfl) (hb hby at_2) (by show _ + 0 ≤ 16; omega) (by show _ + 0 ≤ 1152; omega)
  refine GlW.on (B := T1.setTop (mkF m 11 #[.val (.long j0), .second, .val (.long j2), .second, .val (.long j4), .second, .val (.int i6), .val (.long x2), .second, .unset, .unset, .unset, .unset] [(.int (i6 &&& (1 : Int32)))])) (fun t k => ?_) ?_
  · show Steps p.tables e below (T0.setTop (mkF m 0 #[.val (.long j0), .second, .val (.long j2), .second, .val (.long j4), .second, .val (.int i6), .unset, .unset, .unset, .unset, .unset, .unset] [])) _
    refine XS.lloadN X0.here hx rfl (hb hby at_0) rfl ?_
    show Steps p.tables e below (T0.setTop (mkF m 1 #[.val (.long j0), .second, .val (.long j2), .second, .val (.long j4), .second, .val (.int i6), .unset, .unset, .unset, .unset, .unset, .unset] [(.long j0)])) _
    refine XS.lloadN X0.here hx rfl (hb hby at_1) rfl ?_
    show Steps p.tables e below (T0.setTop (mkF m 2 #[.val (.long j0), .second, .val (.long j2), .second, .val (.long j4), .second, .val (.int i6), .unset, .unset, .unset, .unset, .unset, .unset] [(.long j2), (.long j0)])) _
    refine st1 _ ?_
    show Steps p.tables e below (T1.setTop (mkF m 5 #[.val (.long j0), .second, .val (.long j2), .second, .val (.long j4), .second, .val (.int i6), .unset, .unset, .unset, .unset, .unset, .unset] [(.long x2)])) _
    refine XS.lstore X1.here hx rfl (hb hby at_5) rfl (l' := #[.val (.long j0), .second, .val (.long j2), .second, .val (.long j4), .second, .val (.int i6), .val (.long x2), .second, .unset, .unset, .unset, .unset]) rfl ?_
    show Steps p.tables e below (T1.setTop (mkF m 7 #[.val (.long j0), .second, .val (.long j2), .second, .val (.long j4), .second, .val (.int i6), .val (.long x2), .second, .unset, .unset, .unset, .unset] [])) _
    refine XS.iload X1.here hx rfl (hb hby at_7) rfl ?_
    show Steps p.tables e below (T1.setTop (mkF m 9 #[.val (.long j0), .second, .val (.long j2), .second, .val (.long j4), .second, .val (.int i6), .val (.long x2), .second, .unset, .unset, .unset, .unset] [(.int i6)])) _
    refine XS.iconst X1.here hx rfl (hb hby at_9) ?_
    show Steps p.tables e below (T1.setTop (mkF m 10 #[.val (.long j0), .second, .val (.long j2), .second, .val (.long j4), .second, .val (.int i6), .val (.long x2), .second, .unset, .unset, .unset, .unset] [(.int (1 : Int32)), (.int i6)])) _
    refine XS.iand X1.here hx rfl (hb hby at_10) rfl ?_
    exact k
  by_cases hc3 : (i6 &&& (1 : Int32)) = (0 : Int32)
  · rw [if_pos hc3] at hf
    obtain ⟨⟨x5, D4⟩, hq4, hf⟩ := own_bind hf
    obtain ⟨_, rfl, hf⟩ := own_letE hf
    obtain ⟨_, rfl, hf⟩ := own_letE hf
    obtain ⟨T4, h4, L4, X4, e4, z4, O4, N4, st4⟩ := callSW X1 hx hZ (y := (⟨"java/lang/Math", "max", "(JJ)J"⟩ : MethodName)) hown (hw _ (List.mem_of_getElem? (i := 4) rfl)) (hw _ (List.mem_of_getElem? (i := 5) rfl)) (hw _ (List.mem_of_getElem? (i := 2) rfl)) (hw _ (List.mem_of_getElem? (i := 6) rfl)) (by decide) e1 O1 N1 (as' := [(.long j0), (.long j2)]) (ct2 hw hq4) (W := 0) (kc := 0) (ks := 0) rfl rfl (by decide) (by decide) (g := (mkF m 16 #[.val (.long j0), .second, .val (.long j2), .second, .val (.long j4), .second, .val (.int i6), .val (.long x2), .second, .unset, .unset, .unset, .unset] [(.long j2), (.long j0)])) rfl (by rw [hml]; rfl) (rest := []) (lenOf pd_1 rfl) rfl (by show 2 * 0 + _ ≤ _; exact Nat.le_of_eq rfl) (hb hby at_16) (by show _ + 0 ≤ 16; omega) (by show _ + 0 ≤ 1152; omega)
    refine GlW.on (B := T4.setTop (mkF m 59 #[.val (.long j0), .second, .val (.long j2), .second, .val (.long j4), .second, .val (.int i6), .val (.long x2), .second, .val (.long x5), .second, .unset, .unset] [])) (fun t k => ?_) ?_
    · show Steps p.tables e below (T1.setTop (mkF m 11 #[.val (.long j0), .second, .val (.long j2), .second, .val (.long j4), .second, .val (.int i6), .val (.long x2), .second, .unset, .unset, .unset, .unset] [(.int (i6 &&& (1 : Int32)))])) _
      refine XS.ifNo X1.here hx rfl (hb hby at_11) rfl ((if0 _ _).trans (teq hc3).2) ?_
      show Steps p.tables e below (T1.setTop (mkF m 14 #[.val (.long j0), .second, .val (.long j2), .second, .val (.long j4), .second, .val (.int i6), .val (.long x2), .second, .unset, .unset, .unset, .unset] [])) _
      refine XS.lloadN X1.here hx rfl (hb hby at_14) rfl ?_
      show Steps p.tables e below (T1.setTop (mkF m 15 #[.val (.long j0), .second, .val (.long j2), .second, .val (.long j4), .second, .val (.int i6), .val (.long x2), .second, .unset, .unset, .unset, .unset] [(.long j0)])) _
      refine XS.lloadN X1.here hx rfl (hb hby at_15) rfl ?_
      show Steps p.tables e below (T1.setTop (mkF m 16 #[.val (.long j0), .second, .val (.long j2), .second, .val (.long j4), .second, .val (.int i6), .val (.long x2), .second, .unset, .unset, .unset, .unset] [(.long j2), (.long j0)])) _
      refine st4 _ ?_
      show Steps p.tables e below (T4.setTop (mkF m 19 #[.val (.long j0), .second, .val (.long j2), .second, .val (.long j4), .second, .val (.int i6), .val (.long x2), .second, .unset, .unset, .unset, .unset] [(.long x5)])) _
      refine XS.lstore X4.here hx rfl (hb hby at_19) rfl (l' := #[.val (.long j0), .second, .val (.long j2), .second, .val (.long j4), .second, .val (.int i6), .val (.long x2), .second, .val (.long x5), .second, .unset, .unset]) rfl ?_
      show Steps p.tables e below (T4.setTop (mkF m 21 #[.val (.long j0), .second, .val (.long j2), .second, .val (.long j4), .second, .val (.int i6), .val (.long x2), .second, .val (.long x5), .second, .unset, .unset] [])) _
      refine XS.goto X4.here hx rfl (pc0 := 21) (pc' := 59) rfl (hb hby at_21) (by decide) (by decide) ?_
      exact k
    exact bt0_59 hw hC X4 e4 O4 N4 hS (Nat.le_trans (Nat.le_trans hk z1) z4) (by omega) (by omega) (Or.inl ⟨rfl, rfl⟩) hf
  · rw [if_neg hc3] at hf
    obtain ⟨v6, hv6, hf⟩ := own_letE hf
    refine GlW.on (B := T1.setTop (mkF m 41 #[.val (.long j0), .second, .val (.long j2), .second, .val (.long j4), .second, .val (.int i6), .val (.long x2), .second, .unset, .unset, .val (.long v6), .second] [(.int (lcmpW x2 ((9223372036854775807 : Int64) - v6)))])) (fun t k => ?_) ?_
    · show Steps p.tables e below (T1.setTop (mkF m 11 #[.val (.long j0), .second, .val (.long j2), .second, .val (.long j4), .second, .val (.int i6), .val (.long x2), .second, .unset, .unset, .unset, .unset] [(.int (i6 &&& (1 : Int32)))])) _
      refine XS.ifYes X1.here hx rfl (pc0 := 11) (pc' := 24) rfl (hb hby at_11) rfl ((if0 _ _).trans (feq hc3).2) (by decide) (by decide) ?_
      show Steps p.tables e below (T1.setTop (mkF m 24 #[.val (.long j0), .second, .val (.long j2), .second, .val (.long j4), .second, .val (.int i6), .val (.long x2), .second, .unset, .unset, .unset, .unset] [])) _
      refine XS.lload X1.here hx rfl (hb hby at_24) rfl ?_
      show Steps p.tables e below (T1.setTop (mkF m 26 #[.val (.long j0), .second, .val (.long j2), .second, .val (.long j4), .second, .val (.int i6), .val (.long x2), .second, .unset, .unset, .unset, .unset] [(.long j4)])) _
      refine X1.ldc2Long hx hown (mvT hZ (hw _ (List.mem_of_getElem? (i := 43) rfl))) (g := (mkF m 26 #[.val (.long j0), .second, .val (.long j2), .second, .val (.long j4), .second, .val (.int i6), .val (.long x2), .second, .unset, .unset, .unset, .unset] [(.long j4)])) rfl (hb hby at_26) _ ?_
      show Steps p.tables e below (T1.setTop (mkF m 29 #[.val (.long j0), .second, .val (.long j2), .second, .val (.long j4), .second, .val (.int i6), .val (.long x2), .second, .unset, .unset, .unset, .unset] [(.long (31 : Int64)), (.long j4)])) _
      refine XS.land X1.here hx rfl (hb hby at_29) rfl ?_
      show Steps p.tables e below (T1.setTop (mkF m 30 #[.val (.long j0), .second, .val (.long j2), .second, .val (.long j4), .second, .val (.int i6), .val (.long x2), .second, .unset, .unset, .unset, .unset] [(.long (j4 &&& (31 : Int64)))])) _
      refine own_to (congrArg (fun z => T1.setTop (mkF m 30 #[.val (.long j0), .second, .val (.long j2), .second, .val (.long j4), .second, .val (.int i6), .val (.long x2), .second, .unset, .unset, .unset, .unset] [(.long z)])) hv6) ?_
      show Steps p.tables e below (T1.setTop (mkF m 30 #[.val (.long j0), .second, .val (.long j2), .second, .val (.long j4), .second, .val (.int i6), .val (.long x2), .second, .unset, .unset, .unset, .unset] [(.long v6)])) _
      refine XS.lstore X1.here hx rfl (hb hby at_30) rfl (l' := #[.val (.long j0), .second, .val (.long j2), .second, .val (.long j4), .second, .val (.int i6), .val (.long x2), .second, .unset, .unset, .val (.long v6), .second]) rfl ?_
      show Steps p.tables e below (T1.setTop (mkF m 32 #[.val (.long j0), .second, .val (.long j2), .second, .val (.long j4), .second, .val (.int i6), .val (.long x2), .second, .unset, .unset, .val (.long v6), .second] [])) _
      refine XS.lload X1.here hx rfl (hb hby at_32) rfl ?_
      show Steps p.tables e below (T1.setTop (mkF m 34 #[.val (.long j0), .second, .val (.long j2), .second, .val (.long j4), .second, .val (.int i6), .val (.long x2), .second, .unset, .unset, .val (.long v6), .second] [(.long x2)])) _
      refine X1.ldc2Long hx hown (mvT hZ (hw _ (List.mem_of_getElem? (i := 44) rfl))) (g := (mkF m 34 #[.val (.long j0), .second, .val (.long j2), .second, .val (.long j4), .second, .val (.int i6), .val (.long x2), .second, .unset, .unset, .val (.long v6), .second] [(.long x2)])) rfl (hb hby at_34) _ ?_
      show Steps p.tables e below (T1.setTop (mkF m 37 #[.val (.long j0), .second, .val (.long j2), .second, .val (.long j4), .second, .val (.int i6), .val (.long x2), .second, .unset, .unset, .val (.long v6), .second] [(.long (9223372036854775807 : Int64)), (.long x2)])) _
      refine XS.lload X1.here hx rfl (hb hby at_37) rfl ?_
      show Steps p.tables e below (T1.setTop (mkF m 39 #[.val (.long j0), .second, .val (.long j2), .second, .val (.long j4), .second, .val (.int i6), .val (.long x2), .second, .unset, .unset, .val (.long v6), .second] [(.long v6), (.long (9223372036854775807 : Int64)), (.long x2)])) _
      refine XS.lsub X1.here hx rfl (hb hby at_39) rfl ?_
      show Steps p.tables e below (T1.setTop (mkF m 40 #[.val (.long j0), .second, .val (.long j2), .second, .val (.long j4), .second, .val (.int i6), .val (.long x2), .second, .unset, .unset, .val (.long v6), .second] [(.long ((9223372036854775807 : Int64) - v6)), (.long x2)])) _
      refine XS.lcmp X1.here hx rfl (hb hby at_40) rfl ?_
      exact k
    by_cases hc7 : ((9223372036854775807 : Int64) - v6) < x2
    · rw [if_pos hc7] at hf
      refine GlW.on (B := T1.setTop (mkF m 59 #[.val (.long j0), .second, .val (.long j2), .second, .val (.long j4), .second, .val (.int i6), .val (.long x2), .second, .val (.long (9223372036854775807 : Int64)), .second, .val (.long v6), .second] [])) (fun t k => ?_) ?_
      · show Steps p.tables e below (T1.setTop (mkF m 41 #[.val (.long j0), .second, .val (.long j2), .second, .val (.long j4), .second, .val (.int i6), .val (.long x2), .second, .unset, .unset, .val (.long v6), .second] [(.int (lcmpW x2 ((9223372036854775807 : Int64) - v6)))])) _
        refine XS.ifYes X1.here hx rfl (pc0 := 41) (pc' := 54) rfl (hb hby at_41) rfl ((if0 _ _).trans (tlt ((lw_gt _ _).mpr hc7)).2.2.1) (by decide) (by decide) ?_
        show Steps p.tables e below (T1.setTop (mkF m 54 #[.val (.long j0), .second, .val (.long j2), .second, .val (.long j4), .second, .val (.int i6), .val (.long x2), .second, .unset, .unset, .val (.long v6), .second] [])) _
        refine X1.ldc2Long hx hown (mvT hZ (hw _ (List.mem_of_getElem? (i := 44) rfl))) (g := (mkF m 54 #[.val (.long j0), .second, .val (.long j2), .second, .val (.long j4), .second, .val (.int i6), .val (.long x2), .second, .unset, .unset, .val (.long v6), .second] [])) rfl (hb hby at_54) _ ?_
        show Steps p.tables e below (T1.setTop (mkF m 57 #[.val (.long j0), .second, .val (.long j2), .second, .val (.long j4), .second, .val (.int i6), .val (.long x2), .second, .unset, .unset, .val (.long v6), .second] [(.long (9223372036854775807 : Int64))])) _
        refine XS.lstore X1.here hx rfl (hb hby at_57) rfl (l' := #[.val (.long j0), .second, .val (.long j2), .second, .val (.long j4), .second, .val (.int i6), .val (.long x2), .second, .val (.long (9223372036854775807 : Int64)), .second, .val (.long v6), .second]) rfl ?_
        exact k
      exact bt0_59 hw hC X1 e1 O1 N1 hS (Nat.le_trans hk z1) (by omega) (by omega) (Or.inr ⟨_, rfl, rfl⟩) hf
    · rw [if_neg hc7] at hf
      obtain ⟨v8, hv8, hf⟩ := own_letE hf
      refine GlW.on (B := T1.setTop (mkF m 59 #[.val (.long j0), .second, .val (.long j2), .second, .val (.long j4), .second, .val (.int i6), .val (.long x2), .second, .val (.long v8), .second, .val (.long v6), .second] [])) (fun t k => ?_) ?_
      · show Steps p.tables e below (T1.setTop (mkF m 41 #[.val (.long j0), .second, .val (.long j2), .second, .val (.long j4), .second, .val (.int i6), .val (.long x2), .second, .unset, .unset, .val (.long v6), .second] [(.int (lcmpW x2 ((9223372036854775807 : Int64) - v6)))])) _
        refine XS.ifNo X1.here hx rfl (hb hby at_41) rfl ((if0 _ _).trans (flt (mt (lw_gt _ _).mp hc7)).2.2.1) ?_
        show Steps p.tables e below (T1.setTop (mkF m 44 #[.val (.long j0), .second, .val (.long j2), .second, .val (.long j4), .second, .val (.int i6), .val (.long x2), .second, .unset, .unset, .val (.long v6), .second] [])) _
        refine XS.lload X1.here hx rfl (hb hby at_44) rfl ?_
        show Steps p.tables e below (T1.setTop (mkF m 46 #[.val (.long j0), .second, .val (.long j2), .second, .val (.long j4), .second, .val (.int i6), .val (.long x2), .second, .unset, .unset, .val (.long v6), .second] [(.long x2)])) _
        refine XS.lload X1.here hx rfl (hb hby at_46) rfl ?_
        show Steps p.tables e below (T1.setTop (mkF m 48 #[.val (.long j0), .second, .val (.long j2), .second, .val (.long j4), .second, .val (.int i6), .val (.long x2), .second, .unset, .unset, .val (.long v6), .second] [(.long v6), (.long x2)])) _
        refine XS.ladd X1.here hx rfl (hb hby at_48) rfl ?_
        show Steps p.tables e below (T1.setTop (mkF m 49 #[.val (.long j0), .second, .val (.long j2), .second, .val (.long j4), .second, .val (.int i6), .val (.long x2), .second, .unset, .unset, .val (.long v6), .second] [(.long (x2 + v6))])) _
        refine own_to (congrArg (fun z => T1.setTop (mkF m 49 #[.val (.long j0), .second, .val (.long j2), .second, .val (.long j4), .second, .val (.int i6), .val (.long x2), .second, .unset, .unset, .val (.long v6), .second] [(.long z)])) hv8) ?_
        show Steps p.tables e below (T1.setTop (mkF m 49 #[.val (.long j0), .second, .val (.long j2), .second, .val (.long j4), .second, .val (.int i6), .val (.long x2), .second, .unset, .unset, .val (.long v6), .second] [(.long v8)])) _
        refine XS.lstore X1.here hx rfl (hb hby at_49) rfl (l' := #[.val (.long j0), .second, .val (.long j2), .second, .val (.long j4), .second, .val (.int i6), .val (.long x2), .second, .val (.long v8), .second, .val (.long v6), .second]) rfl ?_
        show Steps p.tables e below (T1.setTop (mkF m 51 #[.val (.long j0), .second, .val (.long j2), .second, .val (.long j4), .second, .val (.int i6), .val (.long x2), .second, .val (.long v8), .second, .val (.long v6), .second] [])) _
        refine XS.goto X1.here hx rfl (pc0 := 51) (pc' := 59) rfl (hb hby at_51) (by decide) (by decide) ?_
        exact k
      exact bt0_59 hw hC X1 e1 O1 N1 hS (Nat.le_trans hk z1) (by omega) (by omega) (Or.inr ⟨_, rfl, rfl⟩) hf
theorem own_letU {α β : Type} {a : α} {f : α → β} : own_let a f = f a := rfl
theorem own_letV {α β : Type} {a b : α} (h : a = b) {f : α → β} : own_let a f = f b := by rw [h]; rfl
theorem own_bs {α β : Type} {o : Option α} {a : α} (h : o = some a) {f : α → Option β} : o.bind f = f a := by rw [h]; rfl
theorem own_letP1 {α β γ : Type} {a : α} {b : β} {f : α → γ} : own_let (a, b).1 f = f a := rfl
theorem own_letP2 {α β γ : Type} {a : α} {b : β} {f : β → γ} : own_let (a, b).2 f = f b := rfl
theorem own_lt {x y : Int64} : x < y ↔ x.toInt < y.toInt := Int64.lt_iff_toInt_lt
def oA : Hp := [(1, [.long (0 : Int64), .long (0 : Int64)])]
def oB : Hp := [(1, [.long (0 : Int64), .long (0 : Int64)]), (98, [])]
def oC (lo : Int64) : Hp := [(1, [.long lo, .long (0 : Int64)]), (98, [])]
def oD (lo hi : Int64) : Hp := [(1, [.long lo, .long hi]), (98, [])]
theorem own_f3 (lo hi : Int64) (h : ¬ hi < lo) : f3 oB 0 lo hi = some (oD lo hi) := by
  rw [f3, own_bs (show f4 oB 0 = some oB from rfl), if_neg h, own_bs (show ck oB 0 1 = some 1 from rfl), own_bs (show pV oB 0 1 0 (.long lo) = some (oC lo) from rfl), own_bs (show pV (oC lo) 0 1 1 (.long hi) = some (oD lo hi) from rfl)]
theorem own_f6a (lo hi : Int64) (h1 : ¬ hi - lo < (0 : Int64)) (h2 : hi - lo < (16 : Int64)) : f6 (oD lo hi) 0 = some ((1 : Int32), oD lo hi) := by
  rw [f6, own_bs (show gJ (oD lo hi) 0 1 1 = some hi from rfl), own_bs (show gJ (oD lo hi) 0 1 0 = some lo from rfl), if_neg h1, own_bs (show gJ (oD lo hi) 0 1 1 = some hi from rfl), own_bs (show gJ (oD lo hi) 0 1 0 = some lo from rfl), if_pos h2]
theorem own_f6b (lo hi : Int64) (h : hi - lo < (0 : Int64) ∨ ¬ hi - lo < (16 : Int64)) : f6 (oD lo hi) 0 = some ((0 : Int32), oD lo hi) := by
  rw [f6, own_bs (show gJ (oD lo hi) 0 1 1 = some hi from rfl), own_bs (show gJ (oD lo hi) 0 1 0 = some lo from rfl)]
  by_cases h1 : hi - lo < (0 : Int64)
  · rw [if_pos h1]
  · rw [if_neg h1, own_bs (show gJ (oD lo hi) 0 1 1 = some hi from rfl), own_bs (show gJ (oD lo hi) 0 1 0 = some lo from rfl), if_neg (h.resolve_left h1)]
theorem own_near (lo hi : Int64) (h : lo.toInt ≤ hi.toInt) (g : hi.toInt ≤ lo.toInt + 15) : ¬ hi - lo < (0 : Int64) ∧ hi - lo < (16 : Int64) := by
  have l1 := lo.toInt_lt; have l2 := hi.toInt_lt; have l3 := lo.le_toInt; have l4 := hi.le_toInt
  have e : (hi - lo).toInt = hi.toInt - lo.toInt := XT.sub64 (by constructor <;> omega)
  have e0 : (0 : Int64).toInt = 0 := rfl
  have e1 : (16 : Int64).toInt = 16 := rfl
  rw [own_lt, own_lt, e, e0, e1]; omega
theorem own_far (lo hi : Int64) (h : lo.toInt + 15 < hi.toInt) : hi - lo < (0 : Int64) ∨ ¬ hi - lo < (16 : Int64) := by
  have l1 := lo.toInt_lt; have l2 := hi.toInt_lt; have l3 := lo.le_toInt; have l4 := hi.le_toInt
  have e0 : (0 : Int64).toInt = 0 := rfl
  have e1 : (16 : Int64).toInt = 16 := rfl
  have e2 : ((2 ^ 64 : Nat) : Int) = 18446744073709551616 := by decide
  rw [own_lt, own_lt, e0, e1, Int64.toInt_sub, Int.bmod_def, e2]
  split <;> omega
theorem own_b59 (lo hi : Int64) (h : lo.toInt ≤ hi.toInt) : ∃ D', b0_59 [] lo hi = some ((1 : Int32), D') := by
  have l1 := lo.toInt_lt; have l2 := hi.toInt_lt; have l3 := lo.le_toInt; have l4 := hi.le_toInt
  have e15 : (15 : Int64).toInt = 15 := rfl
  have em : (9223372036854775792 : Int64).toInt = 9223372036854775792 := rfl
  rw [b0_59, own_bs (show nm ([] : Hp) = some 0 from rfl), own_letV (show List.length ([] : Hp) = 0 from rfl), own_letV (show ([] : Hp) ++ ([(1, [(.long (0 : Int64)), (.long (0 : Int64))])] : Hp) = oA from rfl), own_letV (show oA ++ ([(98, [])] : Hp) = oB from rfl), own_bs (own_f3 lo hi (by rw [own_lt]; omega))]
  by_cases c1 : (9223372036854775792 : Int64) < lo
  · have c1' := own_lt.mp c1
    obtain ⟨n1, n2⟩ := own_near lo hi h (by omega)
    rw [if_pos c1, own_bs (show ck (oD lo hi) 0 1 = some 1 from rfl), own_bs (own_f6a lo hi n1 n2), own_letP1, own_letP2, if_pos rfl]
    exact ⟨_, rfl⟩
  · have c1' := mt own_lt.mpr c1
    have e : (lo + (15 : Int64)).toInt = lo.toInt + 15 := by rw [XT.add64 (by constructor <;> omega), e15]
    rw [if_neg c1]
    by_cases c2 : lo + (15 : Int64) < hi
    · have c2' := own_lt.mp c2
      rw [if_pos c2, b0_106, own_bs (show ck (oD lo hi) 0 1 = some 1 from rfl), own_bs (own_f6b lo hi (own_far lo hi (by omega))), own_letP1, own_letP2, if_pos rfl]
      exact ⟨_, rfl⟩
    · have c2' := mt own_lt.mpr c2
      obtain ⟨n1, n2⟩ := own_near lo hi h (by omega)
      rw [if_neg c2, b0_106, own_bs (show ck (oD lo hi) 0 1 = some 1 from rfl), own_bs (own_f6a lo hi n1 n2), own_letP1, own_letP2, if_pos rfl]
      exact ⟨_, rfl⟩
theorem own_min (D : Hp) (a b : Int64) : ∃ x : Int64, f1 D a b = some (x, D) ∧ x.toInt ≤ a.toInt ∧ x.toInt ≤ b.toInt := by
  by_cases h : b < a
  · exact ⟨b, by rw [f1, if_pos h], by rw [own_lt] at h; omega, by omega⟩
  · exact ⟨a, by rw [f1, if_neg h], by omega, by rw [own_lt] at h; omega⟩
theorem own_max (D : Hp) (a b : Int64) : ∃ x : Int64, f2 D a b = some (x, D) ∧ a.toInt ≤ x.toInt := by
  by_cases h : a < b
  · exact ⟨b, by rw [f2, if_pos h], by rw [own_lt] at h; omega⟩
  · exact ⟨a, by rw [f2, if_neg h], by omega⟩
theorem own_m31 (x : Int64) : 0 ≤ (x &&& (31 : Int64)).toInt ∧ (x &&& (31 : Int64)).toInt < 32 := by
  rw [c_maskL x 31 5 (by decide) (by decide)]
  have e : ((2 ^ 5 : Nat) : Int) = 32 := by decide
  rw [e]; omega
theorem law_ok (i0 : Int64) (i1 : Int64) (i2 : Int64) (i3 : Int32) : ∃ D', f0 [] i0 i1 i2 i3 = some ((1 : Int32), D') := by
  obtain ⟨lo, e1, b1, b2⟩ := own_min [] i0 i1
  have l1 := lo.toInt_lt; have l3 := lo.le_toInt
  have eM : (9223372036854775807 : Int64).toInt = 9223372036854775807 := rfl
  rw [f0, own_bs e1, own_letP1, own_letP2]
  by_cases h : (i3 &&& (1 : Int32)) = (0 : Int32)
  · obtain ⟨hi, e2, c1⟩ := own_max [] i0 i1
    rw [if_pos h, own_bs e2, own_letP1, own_letP2]
    exact own_b59 lo hi (by omega)
  · rw [if_neg h, own_letU]
    have q := own_m31 i2
    generalize i2 &&& (31 : Int64) = v at q ⊢
    have e : ((9223372036854775807 : Int64) - v).toInt = 9223372036854775807 - v.toInt := by rw [XT.sub64 (by rw [eM]; constructor <;> omega), eM]
    by_cases g : ((9223372036854775807 : Int64) - v) < lo
    · rw [if_pos g]
      exact own_b59 lo _ (by rw [eM]; omega)
    · have g' := mt own_lt.mpr g
      rw [if_neg g, own_letU]
      exact own_b59 lo _ (by rw [XT.add64 (by constructor <;> omega)]; omega)
set_option maxRecDepth 65536 in
set_option maxHeartbeats 40000000 in
theorem comes_1 {Post : Tables → Env → Array Value → State → Outcome → State → Prop} (hpost : ∀ tb e args s v u, (limb_1_1.after args s (.returned v) u = true ∧ limb_1_2.after args s (.returned v) u = true ∧ True) → ReturnedEndW s (.returned v) u (Jvm.fieldLocs frame_1_writes args s ++ Jvm.arrayLocs frame_1_arrays args s ++ Jvm.staticLocs frame_1_statics s) 16 1152 → Post tb e args s (.returned v) u) :
    ArmFor flags0 classFile x code maxLocals ret World_1 tables_1 room_1 Calls_1 rest_1 Pre_1 Post := by
  intro l hfl _ _ p e ha hc hk s m args below hf hA hF happ hP
  obtain ⟨hcalls, hrest, hpre⟩ := hP
  obtain ⟨-, -, -, hnamed, -, -, -, hat⟩ := (Spec.applies_iff hf).mp happ
  obtain ⟨hg, hn⟩ := and_e (Cond.before_iff.mp (show (Jvm.Cond.and given_1 narrow_1).before args s = true from hpre))
  obtain ⟨g0, hg⟩ := and_e hg
  obtain ⟨gg0, hg⟩ := and_e hg
  obtain ⟨gg1, hg⟩ := and_e hg
  obtain ⟨gg2, hg⟩ := and_e hg
  have gg3 := hg
  obtain ⟨w0, w1, w2, w3, rfl⟩ : ∃ w0 w1 w2 w3 : Value, args = #[w0, w1, w2, w3] := by
    have hs : args.size = 4 := by simpa [Cond.value, given_1] using g0
    obtain ⟨L⟩ := args
    match L, hs with
    | [w0, w1, w2, w3], _ => exact ⟨w0, w1, w2, w3, rfl⟩
  have hw := fun d (hd : d ∈ tables_1) => atoms_spec (ws := Jvm.Cond.code x code maxLocals ret :: tables_1) hat d (List.mem_cons_of_mem _ hd)
  obtain ⟨i0, ei0⟩ := isL_v gg0
  obtain rfl : w0 = (.long i0) := Option.some.inj ei0
  obtain ⟨i1, ei1⟩ := isL_v gg1
  obtain rfl : w1 = (.long i1) := Option.some.inj ei1
  obtain ⟨i2, ei2⟩ := isL_v gg2
  obtain rfl : w2 = (.long i2) := Option.some.inj ei2
  obtain ⟨i3, ei3⟩ := is_v gg3
  obtain rfl : w3 = (.int i3) := Option.some.inj ei3
  obtain ⟨D', hlaw⟩ := law_ok i0 i1 i2 i3
  obtain ⟨n, o, h1, h2, h3, _, L, rfl, ⟨rfl, N, -⟩, hq⟩ := ct0 (l := l) hw hlaw s.heap tables_1 (own_ow0 s.heap) p e ha hc hk s m _ below hf ((Spec.applies_iff_loose hf).mp happ).1 ⟨rfl, State.Warmed39.refl s, rfl⟩ trivial
  exact ⟨n, _, h1, h2, h3, hpost _ _ _ _ _ _ ⟨Cond.after_iff.mpr rfl, Cond.after_iff.mpr (eq_i res_at (Term.int_eval (1)) rfl), trivial⟩ ⟨hq.1, hq.2.1, hq.2.2.1, (hq.2.2.2.sift fun y hy => Or.inr (N y hy)).mono (by decide) (by decide)⟩⟩
theorem main_1_1 : Claimed_1_1 := comes_1 fun _ _ _ _ _ _ h hF => ⟨h.1, hF⟩
theorem main_1_2 : Claimed_1_2 := comes_1 fun _ _ _ _ _ _ h hF => ⟨h.2.1, hF⟩
end Jvm.Pilot.@@N@@
namespace Jvm.Pilot.@@N@@
open Jvm Jvm.ClassFile Sem Op Lib Jvm.Free Jvm.Stand Jvm.Pilot.@@N@@.Jvm.D
/-! MADE BY PROGRAM (witnessworld.py) out of the Statement's table words and the real class files: 17 classes; the members and pool entries that the words name. The judged class is class 1, her method 1. -/
namespace start1
open Jvm.ClassFile
def u (s : String) : CpInfo := .utf8 (stringToUtf16 s)
/-- a pool by its gaps: so many unusable entries, then the entry; so many at the end -/
def gap : Nat → List CpInfo → List CpInfo
  | 0, r => r
  | n + 1, r => .unusable :: gap n r
def poolList (es : List (Nat × CpInfo)) (last : Nat) : List CpInfo := es.foldr (fun e r => gap e.1 (e.2 :: r)) (gap last [])
def pool (es : List (Nat × CpInfo)) (last : Nat) : Array CpInfo := ⟨poolList es last⟩
def fileOf (pool : Array CpInfo) (this : Nat) (attrs : Array Attribute := #[]) (ms : Array MethodInfo := #[]) (fl : Nat := 33) (sup : Nat := 0) (ifs : Array Nat := #[]) (fds : Array FieldInfo := #[]) : ClassFile where
  minorVersion := 0
  majorVersion := 65
  constantPool := pool
  accessFlags := fl
  thisClass := this
  superClass := sup
  interfaces := ifs
  fields := fds
  methods := ms
  attributes := attrs
def plain (name : String) (sup : Option ClassId) : Class where
  name := name
  kind := .ordinary
  loader := none
  accessFlags := 33
  super := sup
  interfaces := #[]
  cf := none
  fields := #[]
  methods := #[]
  instanceTypes := #[]
  staticTypes := #[]
  resolved := #[]
  callSites := []
  init := .initialized
  statics := none
  mirror := none

def pool0 : Array CpInfo := pool [(5, u "<init>"), (0, u "()V"), (1, .class_ 10), (1, u "java/lang/Object")] 113

def k0c0 : Code := { maxStack := 0, maxLocals := 1, code := object_method_1_code, exceptionTable := #[], attributes := #[] }
def k0m0 : Method := { name := "<init>", desc := "()V", sig := { parameters := [], returnType := none }, accessFlags := 1, code := some k0c0 }
/-- java/lang/Object -/
def k0 : Class := { plain "java/lang/Object" none with
  accessFlags := 33
  interfaces := #[]
  cf := some (fileOf pool0 8 #[] #[{ accessFlags := 1, nameIndex := 5, descriptorIndex := 6, attributes := #[] }] 33 0 #[] #[])
  fields := #[]
  methods := #[k0m0]
  instanceTypes := #[]
  staticTypes := #[]
  resolved := Array.replicate 124 none
  statics := none }

def pool1 : Array CpInfo := pool [(2, .class_ 4), (1, u "java/lang/Object"), (0, u "<init>"), (0, u "()V"), (0, .methodref 8 9), (0, .class_ 10), (0, .nameAndType 11 12), (0, u "java/lang/Math"), (0, u "min"), (0, u "(JJ)J"), (0, .methodref 8 14), (0, .nameAndType 15 12), (0, u "max"), (0, .long 31), (3, .long 9223372036854775807), (1, .class_ 23), (0, u "com/example/pathweave/pathweave/core/Parameter$Range"), (0, .string 25), (0, u "n"), (0, .methodref 22 27), (0, .nameAndType 5 28), (0, u "(Ljava/lang/String;JJ)V"), (0, .long 9223372036854775792), (1, .long 15), (1, .methodref 22 34), (0, .nameAndType 35 36), (0, u "triedWhole"), (0, u "()Z"), (0, .class_ 38), (0, u "com/example/pathweave/pathweave/core/RangeTriedWholePinLaw"), (2, u "law"), (0, u "(JJJI)Z")] 7

def k1m0 : Method := { name := "<init>", desc := "()V", sig := { parameters := [], returnType := none }, accessFlags := 2, code := none }
def k1c1 : Code := { maxStack := 7, maxLocals := 13, code := code, exceptionTable := #[], attributes := #[] }
def k1m1 : Method := { name := "law", desc := "(JJJI)Z", sig := { parameters := [.long, .long, .long, .int], returnType := some .boolean }, accessFlags := 9, code := some k1c1 }
/-- com/example/pathweave/pathweave/core/RangeTriedWholePinLaw -/
def k1 : Class := { plain "com/example/pathweave/pathweave/core/RangeTriedWholePinLaw" (some 0) with
  accessFlags := 49
  interfaces := #[]
  cf := some (fileOf pool1 37 #[] #[{ accessFlags := 2, nameIndex := 5, descriptorIndex := 6, attributes := #[] }, { accessFlags := 9, nameIndex := 41, descriptorIndex := 42, attributes := #[] }] 49 2 #[] #[])
  fields := #[]
  methods := #[k1m0, k1m1]
  instanceTypes := #[]
  staticTypes := #[]
  resolved := Array.replicate 50 none
  statics := none }

def pool2 : Array CpInfo := pool [(1, .class_ 2), (0, u "java/lang/Math"), (1, .class_ 6), (1, u "java/lang/Object"), (0, u "<init>"), (0, u "()V"), (89, .class_ 100), (1, u "java/lang/Math$RandomNumberGeneratorHolder"), (20, u "(JJ)J"), (50, u "negativeZeroFloatBits"), (0, u "J"), (2, u "negativeZeroDoubleBits"), (21, u "max"), (2, u "min"), (43, u "$assertionsDisabled"), (0, u "Z"), (91, u "twoToTheDoubleScaleDown"), (0, u "D"), (4, u "twoToTheDoubleScaleUp"), (9, u "E"), (3, u "PI"), (2, u "TAU"), (2, u "DEGREES_TO_RADIANS"), (0, u "RADIANS_TO_DEGREES")] 94

def k2m0 : Method := { name := "<init>", desc := "()V", sig := { parameters := [], returnType := none }, accessFlags := 2, code := none }
def k2c1 : Code := { maxStack := 4, maxLocals := 4, code := jdk_29_method_66_code, exceptionTable := #[], attributes := #[] }
def k2m1 : Method := { name := "max", desc := "(JJ)J", sig := { parameters := [.long, .long], returnType := some .long }, accessFlags := 9, code := some k2c1 }
def k2c2 : Code := { maxStack := 4, maxLocals := 4, code := jdk_29_method_70_code, exceptionTable := #[], attributes := #[] }
def k2m2 : Method := { name := "min", desc := "(JJ)J", sig := { parameters := [.long, .long], returnType := some .long }, accessFlags := 9, code := some k2c2 }
/-- java/lang/Math -/
def k2 : Class := { plain "java/lang/Math" (some 0) with
  accessFlags := 49
  interfaces := #[]
  cf := some (fileOf pool2 1 #[.nestMembers #[98]] #[{ accessFlags := 2, nameIndex := 7, descriptorIndex := 8, attributes := #[] }, { accessFlags := 9, nameIndex := 198, descriptorIndex := 121, attributes := #[] }, { accessFlags := 9, nameIndex := 201, descriptorIndex := 121, attributes := #[] }] 49 4 #[] #[{ accessFlags := 25, nameIndex := 354, descriptorIndex := 339, attributes := #[] }, { accessFlags := 25, nameIndex := 358, descriptorIndex := 339, attributes := #[] }, { accessFlags := 25, nameIndex := 361, descriptorIndex := 339, attributes := #[] }, { accessFlags := 26, nameIndex := 364, descriptorIndex := 339, attributes := #[] }, { accessFlags := 26, nameIndex := 365, descriptorIndex := 339, attributes := #[] }, { accessFlags := 26, nameIndex := 172, descriptorIndex := 173, attributes := #[] }, { accessFlags := 26, nameIndex := 176, descriptorIndex := 173, attributes := #[] }, { accessFlags := 8, nameIndex := 344, descriptorIndex := 339, attributes := #[] }, { accessFlags := 8, nameIndex := 338, descriptorIndex := 339, attributes := #[] }, { accessFlags := 4120, nameIndex := 245, descriptorIndex := 246, attributes := #[] }])
  fields := #[{ name := "E", type := .double, accessFlags := 25, slot := 0, constantValue := 0 }, { name := "PI", type := .double, accessFlags := 25, slot := 1, constantValue := 0 }, { name := "TAU", type := .double, accessFlags := 25, slot := 2, constantValue := 0 }, { name := "DEGREES_TO_RADIANS", type := .double, accessFlags := 26, slot := 3, constantValue := 0 }, { name := "RADIANS_TO_DEGREES", type := .double, accessFlags := 26, slot := 4, constantValue := 0 }, { name := "negativeZeroFloatBits", type := .long, accessFlags := 26, slot := 5, constantValue := 0 }, { name := "negativeZeroDoubleBits", type := .long, accessFlags := 26, slot := 6, constantValue := 0 }, { name := "twoToTheDoubleScaleUp", type := .double, accessFlags := 8, slot := 7, constantValue := 0 }, { name := "twoToTheDoubleScaleDown", type := .double, accessFlags := 8, slot := 8, constantValue := 0 }, { name := "$assertionsDisabled", type := .boolean, accessFlags := 4120, slot := 9, constantValue := 0 }]
  methods := #[k2m0, k2m1, k2m2]
  instanceTypes := #[]
  staticTypes := #[.double, .double, .double, .double, .double, .long, .long, .double, .double, .boolean]
  resolved := Array.replicate 460 none
  statics := none }

def pool3 : Array CpInfo := pool [(1, .methodref 2 3), (0, .class_ 4), (0, .nameAndType 5 6), (0, u "java/lang/Object"), (0, u "<init>"), (0, u "()V"), (0, .class_ 8), (0, u "java/lang/Record")] 13

def k3c0 : Code := { maxStack := 1, maxLocals := 1, code := jdk_30_method_1_code, exceptionTable := #[], attributes := #[] }
def k3m0 : Method := { name := "<init>", desc := "()V", sig := { parameters := [], returnType := none }, accessFlags := 4, code := some k3c0 }
/-- java/lang/Record -/
def k3 : Class := { plain "java/lang/Record" (some 0) with
  accessFlags := 1057
  interfaces := #[]
  cf := some (fileOf pool3 7 #[] #[{ accessFlags := 4, nameIndex := 5, descriptorIndex := 6, attributes := #[] }] 1057 2 #[] #[])
  fields := #[]
  methods := #[k3m0]
  instanceTypes := #[]
  staticTypes := #[]
  resolved := Array.replicate 22 none
  statics := none }

def pool4 : Array CpInfo := pool [(1, .class_ 2), (0, u "com/example/pathweave/pathweave/core/Parameter"), (0, .class_ 4), (0, u "java/lang/Object"), (14, .class_ 20), (0, u "com/example/pathweave/pathweave/core/Parameter$OneOf"), (0, .class_ 22), (0, u "com/example/pathweave/pathweave/core/Parameter$Bool"), (0, .class_ 24), (0, u "com/example/pathweave/pathweave/core/Parameter$Range"), (0, .class_ 26), (0, u "com/example/pathweave/pathweave/core/Parameter$Boundary")] 6

/-- com/example/pathweave/pathweave/core/Parameter -/
def k4 : Class := { plain "com/example/pathweave/pathweave/core/Parameter" (some 0) with
  accessFlags := 1537
  interfaces := #[]
  cf := some (fileOf pool4 1 #[.nestMembers #[19, 21, 23, 25]] #[] 1537 3 #[] #[])
  fields := #[]
  methods := #[]
  instanceTypes := #[]
  staticTypes := #[]
  resolved := Array.replicate 33 none
  statics := none }

def pool5 : Array CpInfo := pool [(1, .methodref 2 3), (0, .class_ 4), (0, .nameAndType 5 6), (0, u "java/lang/Record"), (0, u "<init>"), (0, u "()V"), (9, .fieldref 17 18), (0, .class_ 19), (0, .nameAndType 20 21), (0, u "com/example/pathweave/pathweave/core/Parameter$Range"), (0, u "name"), (0, u "Ljava/lang/String;"), (0, .fieldref 17 23), (0, .nameAndType 24 25), (0, u "min"), (0, u "J"), (0, .fieldref 17 27), (0, .nameAndType 28 25), (0, u "max"), (9, .long 16), (3, u "triedWhole"), (0, u "()Z"), (85, .class_ 130), (0, u "com/example/pathweave/pathweave/core/Parameter"), (0, u "TRIED_WHOLE"), (0, u "I"), (2, u "(Ljava/lang/String;JJ)V")] 62

def k5c0 : Code := { maxStack := 7, maxLocals := 6, code := prog_25_method_1_code, exceptionTable := #[], attributes := #[] }
def k5m0 : Method := { name := "<init>", desc := "(Ljava/lang/String;JJ)V", sig := { parameters := [(.object "java/lang/String"), .long, .long], returnType := none }, accessFlags := 1, code := some k5c0 }
def k5c1 : Code := { maxStack := 4, maxLocals := 1, code := prog_25_method_4_code, exceptionTable := #[], attributes := #[] }
def k5m1 : Method := { name := "triedWhole", desc := "()Z", sig := { parameters := [], returnType := some .boolean }, accessFlags := 1, code := some k5c1 }
/-- com/example/pathweave/pathweave/core/Parameter$Range -/
def k5 : Class := { plain "com/example/pathweave/pathweave/core/Parameter$Range" (some 3) with
  accessFlags := 49
  interfaces := #[4]
  cf := some (fileOf pool5 17 #[.nestHost 129] #[{ accessFlags := 1, nameIndex := 5, descriptorIndex := 135, attributes := #[] }, { accessFlags := 1, nameIndex := 42, descriptorIndex := 43, attributes := #[] }] 49 2 #[129] #[{ accessFlags := 18, nameIndex := 20, descriptorIndex := 21, attributes := #[] }, { accessFlags := 18, nameIndex := 24, descriptorIndex := 25, attributes := #[] }, { accessFlags := 18, nameIndex := 28, descriptorIndex := 25, attributes := #[] }, { accessFlags := 25, nameIndex := 131, descriptorIndex := 132, attributes := #[] }])
  fields := #[{ name := "name", type := (.object "java/lang/String"), accessFlags := 18, slot := 0, constantValue := 0 }, { name := "min", type := .long, accessFlags := 18, slot := 1, constantValue := 0 }, { name := "max", type := .long, accessFlags := 18, slot := 2, constantValue := 0 }, { name := "TRIED_WHOLE", type := .int, accessFlags := 25, slot := 0, constantValue := 0 }]
  methods := #[k5m0, k5m1]
  instanceTypes := #[(.object "java/lang/String"), .long, .long]
  staticTypes := #[.int]
  resolved := Array.replicate 198 none
  statics := none }

def pool6 : Array CpInfo := pool [(1, .class_ 2), (0, u "java/io/Serializable"), (0, .class_ 4), (0, u "java/lang/Object")] 2

/-- java/io/Serializable -/
def k6 : Class := { plain "java/io/Serializable" (some 0) with
  accessFlags := 1537
  interfaces := #[]
  cf := some (fileOf pool6 1 #[] #[] 1537 3 #[] #[])
  fields := #[]
  methods := #[]
  instanceTypes := #[]
  staticTypes := #[]
  resolved := Array.replicate 7 none
  statics := none }

def pool7 : Array CpInfo := pool [(1, .class_ 2), (0, u "java/lang/Comparable"), (0, .class_ 4), (0, u "java/lang/Object")] 7

/-- java/lang/Comparable -/
def k7 : Class := { plain "java/lang/Comparable" (some 0) with
  accessFlags := 1537
  interfaces := #[]
  cf := some (fileOf pool7 1 #[] #[] 1537 3 #[] #[])
  fields := #[]
  methods := #[]
  instanceTypes := #[]
  staticTypes := #[]
  resolved := Array.replicate 12 none
  statics := none }

def pool8 : Array CpInfo := pool [(2, .class_ 4), (1, u "java/lang/CharSequence"), (42, .class_ 48), (0, u "java/lang/CharSequence$1CodePointIterator"), (10, .class_ 60), (0, u "java/lang/CharSequence$1CharIterator"), (5, .class_ 67), (0, u "java/lang/Object")] 63

/-- java/lang/CharSequence -/
def k8 : Class := { plain "java/lang/CharSequence" (some 0) with
  accessFlags := 1537
  interfaces := #[]
  cf := some (fileOf pool8 2 #[.nestMembers #[47, 59]] #[] 1537 66 #[] #[])
  fields := #[]
  methods := #[]
  instanceTypes := #[]
  staticTypes := #[]
  resolved := Array.replicate 131 none
  statics := none }

def pool9 : Array CpInfo := pool [(1, .class_ 2), (0, u "java/lang/constant/Constable"), (0, .class_ 4), (0, u "java/lang/Object")] 6

/-- java/lang/constant/Constable -/
def k9 : Class := { plain "java/lang/constant/Constable" (some 0) with
  accessFlags := 1537
  interfaces := #[]
  cf := some (fileOf pool9 1 #[] #[] 1537 3 #[] #[])
  fields := #[]
  methods := #[]
  instanceTypes := #[]
  staticTypes := #[]
  resolved := Array.replicate 11 none
  statics := none }

def pool10 : Array CpInfo := pool [(1, .class_ 2), (0, u "java/lang/constant/ConstantDesc"), (0, .class_ 4), (0, u "java/lang/Object")] 32

/-- java/lang/constant/ConstantDesc -/
def k10 : Class := { plain "java/lang/constant/ConstantDesc" (some 0) with
  accessFlags := 1537
  interfaces := #[]
  cf := some (fileOf pool10 1 #[] #[] 1537 3 #[] #[])
  fields := #[]
  methods := #[]
  instanceTypes := #[]
  staticTypes := #[]
  resolved := Array.replicate 37 none
  statics := none }

def pool11 : Array CpInfo := pool [(2, .class_ 4), (1, u "java/lang/Object"), (0, u "<init>"), (0, u "()V"), (3, .class_ 12), (1, u "java/lang/String"), (0, u "value"), (0, u "[B"), (2, u "coder"), (0, u "B"), (2, u "hash"), (0, u "I"), (2, u "hashIsZero"), (0, u "Z"), (13, u "COMPACT_STRINGS"), (534, .class_ 576), (0, u "java/lang/CharSequence"), (22, u "CASE_INSENSITIVE_ORDER"), (0, u "Ljava/util/Comparator;"), (500, u "serialPersistentFields"), (0, u "[Ljava/io/ObjectStreamField;"), (0, .class_ 1104), (0, u "java/lang/String$CaseInsensitiveComparator"), (1, .class_ 1107), (0, u "java/io/Serializable"), (0, .class_ 1109), (0, u "java/lang/Comparable"), (0, .class_ 1111), (0, u "java/lang/constant/Constable"), (0, .class_ 1113), (0, u "java/lang/constant/ConstantDesc"), (2, u "serialVersionUID"), (0, u "J"), (3, u "REPL"), (0, u "C"), (2, u "LATIN1"), (1, u "UTF16")] 323

def k11m0 : Method := { name := "<init>", desc := "()V", sig := { parameters := [], returnType := none }, accessFlags := 1, code := none }
/-- java/lang/String -/
def k11 : Class := { plain "java/lang/String" (some 0) with
  accessFlags := 49
  interfaces := #[6, 7, 8, 9, 10]
  cf := some (fileOf pool11 10 #[.nestMembers #[1103]] #[{ accessFlags := 1, nameIndex := 5, descriptorIndex := 6, attributes := #[] }] 49 2 #[1106, 1108, 575, 1110, 1112] #[{ accessFlags := 18, nameIndex := 13, descriptorIndex := 14, attributes := #[] }, { accessFlags := 18, nameIndex := 17, descriptorIndex := 18, attributes := #[] }, { accessFlags := 2, nameIndex := 21, descriptorIndex := 22, attributes := #[] }, { accessFlags := 2, nameIndex := 25, descriptorIndex := 26, attributes := #[] }, { accessFlags := 26, nameIndex := 1116, descriptorIndex := 1117, attributes := #[] }, { accessFlags := 24, nameIndex := 40, descriptorIndex := 26, attributes := #[] }, { accessFlags := 26, nameIndex := 1101, descriptorIndex := 1102, attributes := #[] }, { accessFlags := 26, nameIndex := 1121, descriptorIndex := 1122, attributes := #[] }, { accessFlags := 25, nameIndex := 599, descriptorIndex := 600, attributes := #[] }, { accessFlags := 24, nameIndex := 1125, descriptorIndex := 18, attributes := #[] }, { accessFlags := 24, nameIndex := 1127, descriptorIndex := 18, attributes := #[] }])
  fields := #[{ name := "value", type := (.array .byte), accessFlags := 18, slot := 0, constantValue := 0 }, { name := "coder", type := .byte, accessFlags := 18, slot := 1, constantValue := 0 }, { name := "hash", type := .int, accessFlags := 2, slot := 2, constantValue := 0 }, { name := "hashIsZero", type := .boolean, accessFlags := 2, slot := 3, constantValue := 0 }, { name := "serialVersionUID", type := .long, accessFlags := 26, slot := 0, constantValue := 0 }, { name := "COMPACT_STRINGS", type := .boolean, accessFlags := 24, slot := 1, constantValue := 0 }, { name := "serialPersistentFields", type := (.array (.object "java/io/ObjectStreamField")), accessFlags := 26, slot := 2, constantValue := 0 }, { name := "REPL", type := .char, accessFlags := 26, slot := 3, constantValue := 0 }, { name := "CASE_INSENSITIVE_ORDER", type := (.object "java/util/Comparator"), accessFlags := 25, slot := 4, constantValue := 0 }, { name := "LATIN1", type := .byte, accessFlags := 24, slot := 5, constantValue := 0 }, { name := "UTF16", type := .byte, accessFlags := 24, slot := 6, constantValue := 0 }]
  methods := #[k11m0]
  instanceTypes := #[(.array .byte), .byte, .int, .boolean]
  staticTypes := #[.long, .boolean, (.array (.object "java/io/ObjectStreamField")), .char, (.object "java/util/Comparator"), .byte, .byte]
  resolved := Array.replicate 1451 none
  statics := none }

def pool12 : Array CpInfo := pool [(1, u "java/lang/Cloneable"), (0, .class_ 1), (0, u "java/lang/Object"), (0, .class_ 3)] 3

/-- java/lang/Cloneable -/
def k12 : Class := { plain "java/lang/Cloneable" (some 0) with
  accessFlags := 1537
  interfaces := #[]
  cf := some (fileOf pool12 2 #[] #[] 1537 4 #[] #[])
  fields := #[]
  methods := #[]
  instanceTypes := #[]
  staticTypes := #[]
  resolved := Array.replicate 8 none
  statics := none }

/-- the primitive byte -/
def k13 : Class := { plain "byte" none with kind := .primitive 'B', accessFlags := 0x411 }
/-- [B -/
def k14 : Class := { plain "[B" (some 0) with kind := .array 13 .byte, interfaces := #[12, 6], accessFlags := 1041 }

/-- the primitive int -/
def k15 : Class := { plain "int" none with kind := .primitive 'I', accessFlags := 0x411 }
/-- [I -/
def k16 : Class := { plain "[I" (some 0) with kind := .array 15 .int, interfaces := #[12, 6], accessFlags := 1041 }

def heap : Heap := #[]
def classes : Array Class := #[k0, k1, k2, k3, k4, k5, k6, k7, k8, k9, k10, k11, k12, k13, k14, k15, k16]
def interned : List (Array UInt16 × Addr) := []
def slotsUsed : Nat := 0
def theMethod : MethodId := ⟨1, 1⟩
def args0 : Array Value := #[.long 5, .long 5, .long 5, .int 5]
def aboutOver (below : List Frame) : State where
  vm := { classes := classes, interned := interned.toArray }
  heap := heap
  slotsUsed := slotsUsed
  threads := #[{ frames := .invoking theMethod args0 :: below }]
def below0 : List Frame := [.native { method := ⟨0, 0⟩, args := #[] }]
def about1 : State := aboutOver below0
def p0 : Program := .bare "" "" ""
def e0 : Env := launch0.env 0 0 0
theorem w_frames : about1.frames = Frame.invoking theMethod args0 :: below0 := rfl
set_option maxRecDepth 65536 in
theorem w_args : argsFit about1.vm theMethod args0 = true := by decide +kernel
set_option maxRecDepth 65536 in
theorem w_heap : heapFits about1 = true := by decide +kernel
set_option maxRecDepth 65536 in
theorem w_runnable : about1.curStatus? = some .runnable := by decide +kernel
set_option maxRecDepth 65536 in
theorem w_alone : about1.alone = true := by decide +kernel
set_option maxRecDepth 65536 in
theorem w_named : about1.methodNamed? x = some theMethod := by decide +kernel
set_option maxRecDepth 65536 in
theorem w_hears : about1.hears theMethod below0 = true := by decide +kernel
set_option maxRecDepth 65536 in
theorem w_ripe : about1.ripe theMethod args0 below0 = true := by decide +kernel
theorem w_running : about1.status = .running := rfl
set_option maxRecDepth 65536 in
theorem w_room : about1.hasRoom e0.platform room_1 = true :=
  launch0.hasRoom_least _ room_1 (by decide +kernel) (by decide +kernel) (by decide +kernel) (by decide +kernel) (by decide +kernel) (by decide +kernel)
theorem allAtoms_all (ts : List Jvm.Cond) (a : Array Jvm.Value) (st : Jvm.State) : (allAtoms ts).before a st = ts.all (fun c => c.before a st) := by
  induction ts with
  | nil => rfl
  | cons c t ih =>
    show (Jvm.Cond.and c (allAtoms t)).before a st = _
    rw [Jvm.Cond.before_and, ih, List.all_cons]
def words1 : List Jvm.Cond := Jvm.Cond.code x code maxLocals ret :: tables_1
/-- a 'code' word, met by the world's own term for the bytes: nothing is compared byte by byte -/
theorem code_word {y : MethodName} {bytes : ByteArray} {mx : Nat} {rt : Option FieldType} {a : Array Value} {s : State} {m : MethodId} {meth : Method} {c : Code} (h1 : s.methodNamed? y = some m) (h2 : s.vm.method? m = some meth) (h3 : meth.code = some c) (h4 : c.code = bytes)
    (h5 : (c.maxLocals == mx && c.exceptionTable.isEmpty && decide (c.maxStack ≤ mostOperands) && decide (meth.sig.returnType = rt) && !meth.locks && decide (parseMethodDescriptor y.desc = some meth.sig)) = true) : (Jvm.Cond.code y bytes mx rt).before a s = true := by
  simp only [Bool.and_eq_true, beq_iff_eq, Bool.not_eq_true', decide_eq_true_eq] at h5
  obtain ⟨⟨⟨⟨⟨g1, g2⟩, g3⟩, g4⟩, g5⟩, g6⟩ := h5
  simp [Cond.before, Cond.holds, Cond.value, h1, h2, h3, h4, g1, g2, g3, g4, g5, g6]
def isCode : Jvm.Cond → Bool
  | .code _ _ _ _ => true
  | _ => false
theorem all_split {L : List Jvm.Cond} {P : Jvm.Cond → Bool} (h1 : L.all (fun c => isCode c || P c) = true) (h2 : ∀ c ∈ L.filter isCode, P c = true) : L.all P = true := by
  refine List.all_eq_true.mpr fun c hc => ?_
  have h := List.all_eq_true.mp h1 c hc
  rcases Bool.eq_false_or_eq_true (isCode c) with hi | hi
  · exact h2 c (List.mem_filter.mpr ⟨hc, hi⟩)
  · simpa [hi] using h
set_option maxRecDepth 65536 in
theorem w_c0 : (Jvm.Cond.code x code maxLocals ret).before args0 about1 = true := code_word (m := ⟨1, 1⟩) (meth := k1m1) (c := k1c1) (by decide +kernel) rfl rfl rfl (by decide +kernel)
set_option maxRecDepth 65536 in
theorem w_c1 : (Jvm.Cond.code ({ cls := "java/lang/Math", name := "min", desc := "(JJ)J" } : Jvm.MethodName) jdk_29_method_70_code (4 : Nat) (Option.some Jvm.ClassFile.FieldType.long)).before args0 about1 = true := code_word (m := ⟨2, 2⟩) (meth := k2m2) (c := k2c2) (by decide +kernel) rfl rfl rfl (by decide +kernel)
set_option maxRecDepth 65536 in
theorem w_c2 : (Jvm.Cond.code ({ cls := "java/lang/Math", name := "max", desc := "(JJ)J" } : Jvm.MethodName) jdk_29_method_66_code (4 : Nat) (Option.some Jvm.ClassFile.FieldType.long)).before args0 about1 = true := code_word (m := ⟨2, 1⟩) (meth := k2m1) (c := k2c1) (by decide +kernel) rfl rfl rfl (by decide +kernel)
set_option maxRecDepth 65536 in
theorem w_c3 : (Jvm.Cond.code ({ cls := "com/example/pathweave/pathweave/core/Parameter$Range", name := "<init>", desc := "(Ljava/lang/String;JJ)V" } : Jvm.MethodName) prog_25_method_1_code (6 : Nat) (Option.none : Option Jvm.ClassFile.FieldType)).before args0 about1 = true := code_word (m := ⟨5, 0⟩) (meth := k5m0) (c := k5c0) (by decide +kernel) rfl rfl rfl (by decide +kernel)
set_option maxRecDepth 65536 in
theorem w_c4 : (Jvm.Cond.code ({ cls := "java/lang/Record", name := "<init>", desc := "()V" } : Jvm.MethodName) jdk_30_method_1_code (1 : Nat) (Option.none : Option Jvm.ClassFile.FieldType)).before args0 about1 = true := code_word (m := ⟨3, 0⟩) (meth := k3m0) (c := k3c0) (by decide +kernel) rfl rfl rfl (by decide +kernel)
set_option maxRecDepth 65536 in
theorem w_c5 : (Jvm.Cond.code ({ cls := "java/lang/Object", name := "<init>", desc := "()V" } : Jvm.MethodName) object_method_1_code (1 : Nat) (Option.none : Option Jvm.ClassFile.FieldType)).before args0 about1 = true := code_word (m := ⟨0, 0⟩) (meth := k0m0) (c := k0c0) (by decide +kernel) rfl rfl rfl (by decide +kernel)
set_option maxRecDepth 65536 in
theorem w_c6 : (Jvm.Cond.code ({ cls := "com/example/pathweave/pathweave/core/Parameter$Range", name := "triedWhole", desc := "()Z" } : Jvm.MethodName) prog_25_method_4_code (1 : Nat) (Option.some Jvm.ClassFile.FieldType.boolean)).before args0 about1 = true := code_word (m := ⟨5, 1⟩) (meth := k5m1) (c := k5c1) (by decide +kernel) rfl rfl rfl (by decide +kernel)
def codes1 : List Jvm.Cond := [Jvm.Cond.code x code maxLocals ret, Jvm.Cond.code ({ cls := "java/lang/Math", name := "min", desc := "(JJ)J" } : Jvm.MethodName) jdk_29_method_70_code (4 : Nat) (Option.some Jvm.ClassFile.FieldType.long), Jvm.Cond.code ({ cls := "java/lang/Math", name := "max", desc := "(JJ)J" } : Jvm.MethodName) jdk_29_method_66_code (4 : Nat) (Option.some Jvm.ClassFile.FieldType.long), Jvm.Cond.code ({ cls := "com/example/pathweave/pathweave/core/Parameter$Range", name := "<init>", desc := "(Ljava/lang/String;JJ)V" } : Jvm.MethodName) prog_25_method_1_code (6 : Nat) (Option.none : Option Jvm.ClassFile.FieldType), Jvm.Cond.code ({ cls := "java/lang/Record", name := "<init>", desc := "()V" } : Jvm.MethodName) jdk_30_method_1_code (1 : Nat) (Option.none : Option Jvm.ClassFile.FieldType), Jvm.Cond.code ({ cls := "java/lang/Object", name := "<init>", desc := "()V" } : Jvm.MethodName) object_method_1_code (1 : Nat) (Option.none : Option Jvm.ClassFile.FieldType), Jvm.Cond.code ({ cls := "com/example/pathweave/pathweave/core/Parameter$Range", name := "triedWhole", desc := "()Z" } : Jvm.MethodName) prog_25_method_4_code (1 : Nat) (Option.some Jvm.ClassFile.FieldType.boolean)]
set_option maxRecDepth 65536 in
theorem codes_eq : words1.filter isCode = codes1 := rfl
theorem w_codes : ∀ c ∈ words1.filter isCode, c.before args0 about1 = true := by
  rw [codes_eq]
  intro c hc
  simp only [codes1, List.mem_cons, List.not_mem_nil, or_false] at hc
  rcases hc with rfl | rfl | rfl | rfl | rfl | rfl | rfl
  · exact w_c0
  · exact w_c1
  · exact w_c2
  · exact w_c3
  · exact w_c4
  · exact w_c5
  · exact w_c6
set_option maxRecDepth 65536 in
theorem w_t1 : (words1.take 24).all (fun c => isCode c || c.before args0 about1) = true := by decide +kernel
set_option maxRecDepth 65536 in
theorem w_t2 : (words1.drop 24).all (fun c => isCode c || c.before args0 about1) = true := by decide +kernel
theorem w_tables : (allAtoms (Jvm.Cond.code x code maxLocals ret :: tables_1)).before args0 about1 = true := by
  rw [allAtoms_all]
  show words1.all (fun c => c.before args0 about1) = true
  refine all_split ?_ w_codes
  rw [← List.take_append_drop 24 words1, List.all_append, w_t1, w_t2]
  rfl
set_option maxRecDepth 65536 in
theorem w_case : (Jvm.Cond.and given_1 narrow_1).before args0 about1 = true := by decide +kernel
theorem w_applies : (headSpec (Jvm.Cond.code x code maxLocals ret :: tables_1) room_1).applies x e0.platform about1 = true :=
  (Spec.applies_iff w_frames).mpr ⟨w_running, w_runnable, w_alone, w_named, w_hears, w_ripe, w_room, w_tables⟩
theorem atStart : AtStart classFile x code maxLocals ret World_1 tables_1 room_1 Calls_1 rest_1 Pre_1 launch0 p0 e0 about1 theMethod args0 below0 :=
  ⟨lists_1, trivial, launch0.admits_env _ _ _, launch0.least_env, fairChoices_fair.cas, fairChoices_fair.clock, w_frames, w_args, w_heap, w_applies, trivial, trivial, w_case⟩
end start1
theorem witness_1 : WitnessClaimed_1 := ⟨start1.p0, start1.e0, start1.about1, start1.theMethod, start1.args0, start1.below0, start1.atStart⟩
end Jvm.Pilot.@@N@@
