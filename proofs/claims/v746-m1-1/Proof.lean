import JvmDerived
import JvmDerived.Pilot.@@N@@Statement
import JvmDerived.Pilot.@@N@@Code
set_option linter.unusedVariables false
set_option linter.unusedSimpArgs false

namespace Jvm.Pilot.@@N@@
open Jvm Jvm.ClassFile Sem Op Lib Jvm.Free Jvm.Stand Jvm.LawKit Jvm.RoadKit Bundle Jvm.Pilot.@@N@@.Jvm.D
/-! 1. the goal of a walk, and its steps -/
section OwnGoal
variable {p : Program} {l : Launch} {e : Env} {R : Room} {s : State} {m : MethodId} {args : Array Value} {below : List Frame} {meth : Method} {c : Code} {T : State} {locs : List Loc} {cells slots : Nat}
/-- from the state S the body returns, P holds of what it leaves, and the frame is kept -/
def Gl (p : Program) (e : Env) (below : List Frame) (s : State) (kc ks : Nat) (P : Option Value → Heap → List Loc → Prop) (S : State) : Prop :=
  ∃ t o, Steps p.tables e below S t ∧ t.status = .running ∧ Ended t below o ∧ ∃ v L, o = .returned v ∧ P v t.heap L ∧ FrameEnd s o t L kc ks
variable {kc ks : Nat} {P : Option Value → Heap → List Loc → Prop}
theorem Gl.on {A B : State} (h : ∀ t, Steps p.tables e below B t → Steps p.tables e below A t) (k : Gl p e below s kc ks P B) : Gl p e below s kc ks P A := by
  obtain ⟨t, o, h1, h2⟩ := k
  exact ⟨t, o, h t h1, h2⟩
theorem own_to {tb : Tables} {A B t : State} (q : A = B) (k : Steps tb e below B t) : Steps tb e below A t := q ▸ k
theorem Gl.out (X : Stand p l e R s m args below meth c T locs cells slots) (hx : p.tables.exec = Jvm.exec) (hlk : meth.locks = false) {pc : Nat} {Ls : Array Slot} {w : Value} {t : FieldType} {i : Instr} {rest : List Value} (hret : meth.sig.returnType = some t) (hn : narrow t w = w)
    (hi : (i = .ireturn ∧ (t = .int ∨ t = .boolean ∨ t = .byte ∨ t = .char ∨ t = .short) ∧ ∃ z, w = .int z) ∨ (i = .lreturn ∧ t = .long ∧ ∃ z, w = .long z) ∨ (i = .dreturn ∧ t = .double ∧ ∃ z, w = .double z) ∨ (i = .freturn ∧ t = .float ∧ ∃ z, w = .float z) ∨ (i = .areturn ∧ t.isReference = true ∧ w.isRef = true))
    (hd : decode c.code pc = .ok (i, 1)) (hP : P (some w) T.heap locs) (hc : cells ≤ kc) (hs : slots ≤ ks) : Gl p e below s kc ks P (T.setTop (mkF m pc Ls (w :: rest))) := by
  obtain ⟨fs, hr, hrun, hended, hW, hsame⟩ := X.leave (v := some w) (fun h => by rw [hret] at h; cases h) hlk
  exact ⟨_, _, retOut X hx hret hn hi hd hr, hrun, hended, _, _, rfl, hP, ⟨_, rfl⟩, hW, hsame.mono hc hs⟩
theorem Gl.outI (X : Stand p l e R s m args below meth c T locs cells slots) (hx : p.tables.exec = Jvm.exec) (hlk : meth.locks = false) {pc : Nat} {Ls : Array Slot} {z : Int32} {rest : List Value} (hret : meth.sig.returnType = some .int)
    (hd : decode c.code pc = .ok (.ireturn, 1)) (hP : P (some (.int z)) T.heap locs) (hc : cells ≤ kc) (hs : slots ≤ ks) : Gl p e below s kc ks P (T.setTop (mkF m pc Ls (.int z :: rest))) :=
  Gl.out X hx hlk hret rfl (Or.inl ⟨rfl, Or.inl rfl, z, rfl⟩) hd hP hc hs
theorem Gl.outJ (X : Stand p l e R s m args below meth c T locs cells slots) (hx : p.tables.exec = Jvm.exec) (hlk : meth.locks = false) {pc : Nat} {Ls : Array Slot} {z : Int64} {rest : List Value} (hret : meth.sig.returnType = some .long)
    (hd : decode c.code pc = .ok (.lreturn, 1)) (hP : P (some (.long z)) T.heap locs) (hc : cells ≤ kc) (hs : slots ≤ ks) : Gl p e below s kc ks P (T.setTop (mkF m pc Ls (.long z :: rest))) :=
  Gl.out X hx hlk hret rfl (Or.inr (Or.inl ⟨rfl, rfl, z, rfl⟩)) hd hP hc hs
theorem Gl.outR (X : Stand p l e R s m args below meth c T locs cells slots) (hx : p.tables.exec = Jvm.exec) (hlk : meth.locks = false) {pc : Nat} {Ls : Array Slot} {a : Addr} {t : FieldType} {rest : List Value} (hret : meth.sig.returnType = some t) (ht : t.isReference = true)
    (hd : decode c.code pc = .ok (.areturn, 1)) (hP : P (some (.ref a)) T.heap locs) (hc : cells ≤ kc) (hs : slots ≤ ks) : Gl p e below s kc ks P (T.setTop (mkF m pc Ls (.ref a :: rest))) :=
  Gl.out X hx hlk hret (by cases t <;> first | rfl | cases ht) (Or.inr (Or.inr (Or.inr (Or.inr ⟨rfl, ht, rfl⟩)))) hd hP hc hs
theorem Gl.outN (X : Stand p l e R s m args below meth c T locs cells slots) (hx : p.tables.exec = Jvm.exec) (hlk : meth.locks = false) {pc : Nat} {Ls : Array Slot} {z : Int32} {t : FieldType} {rest : List Value} (hret : meth.sig.returnType = some t) (ht : t = .boolean ∨ t = .byte ∨ t = .char ∨ t = .short)
    (hd : decode c.code pc = .ok (.ireturn, 1)) (hP : P (some (.int (nar t z))) T.heap locs) (hc : cells ≤ kc) (hs : slots ≤ ks) : Gl p e below s kc ks P (T.setTop (mkF m pc Ls (.int z :: rest))) := by
  obtain ⟨fs, hr, hrun, hended, hW, hsame⟩ := X.leave (v := some (.int (nar t z))) (fun h => by rw [hret] at h; cases h) hlk
  exact ⟨_, _, retN X hx hret ht hd hr, hrun, hended, _, _, rfl, hP, ⟨_, rfl⟩, hW, hsame.mono hc hs⟩
theorem Gl.outV (X : Stand p l e R s m args below meth c T locs cells slots) (hx : p.tables.exec = Jvm.exec) (hlk : meth.locks = false) {pc : Nat} {Ls : Array Slot} (hret : meth.sig.returnType = none)
    (hd : decode c.code pc = .ok (.return_, 1)) (hP : P none T.heap locs) (hc : cells ≤ kc) (hs : slots ≤ ks) : Gl p e below s kc ks P (T.setTop (mkF m pc Ls [])) := by
  obtain ⟨fs, hr, hrun, hended, hW, hsame⟩ := X.leave (v := none) (fun _ => rfl) hlk
  exact ⟨_, _, X.returnOut hx hret hd hr, hrun, hended, _, _, rfl, hP, ⟨_, rfl⟩, hW, hsame.mono hc hs⟩
end OwnGoal
/-- two slots: both empty, or a long -/
def Two (a b : Slot) : Prop := (a = .unset ∧ b = .unset) ∨ ∃ z : Int64, a = .val (.long z) ∧ b = .second
theorem own_inj {α β : Type} {a b : α} {c d : β} (h : some (a, c) = some (b, d)) : a = b ∧ c = d := by cases h; exact ⟨rfl, rfl⟩
theorem own_inj1 {α : Type} {a b : α} (h : some a = some b) : a = b := by cases h; rfl
def own_let {α β : Type} (a : α) (f : α → β) : β := f a
theorem own_letE {α β : Type} {a : α} {f : α → β} {b : β} (h : own_let a f = b) : ∃ x, a = x ∧ f x = b := ⟨a, rfl, h⟩
theorem own_bind {α β : Type} {o : Option α} {f : α → Option β} {b : β} (h : o.bind f = some b) : ∃ x, o = some x ∧ f x = some b := by
  cases o with
  | none => cases h
  | some x => exact ⟨x, rfl, h⟩
/-! 2. what the law has made: a list of objects, each with its kind and its values; a reference is a place in that list -/
abbrev Hp := List (Nat × List Value)
abbrev Kt := Nat → FieldType × List (String × String)
def sh (n0 : Nat) : Value → Value
  | .ref k => .ref (n0 + k)
  | v => v
def gV (D : Hp) (a t i : Nat) : Option Value := (D[a]?).bind fun ob => if ob.1 = t then ob.2[i]? else none
def asI : Value → Option Int32
  | .int x => some x
  | _ => none
def asJ : Value → Option Int64
  | .long x => some x
  | _ => none
def asR : Value → Option Nat
  | .ref x => some x
  | _ => none
def gI (D : Hp) (a t i : Nat) : Option Int32 := (gV D a t i).bind asI
def gJ (D : Hp) (a t i : Nat) : Option Int64 := (gV D a t i).bind asJ
def gR (D : Hp) (a t i : Nat) : Option Nat := (gV D a t i).bind asR
def ck (D : Hp) (a t : Nat) : Option Nat := (D[a]?).bind fun ob => if ob.1 = t then some t else none
def pV (D : Hp) (a t i : Nat) (v : Value) : Option Hp := (D[a]?).bind fun ob => if ob.1 = t then (if i < ob.2.length then some (D.set a (t, ob.2.set i v)) else none) else none
def rV (D : Hp) (a t : Nat) (j : Int32) : Option Value := (D[a]?).bind fun ob => if ob.1 = t then (if j < 0 then none else ob.2[j.toNatClampNeg]?) else none
def rI (D : Hp) (a t : Nat) (j : Int32) : Option Int32 := (rV D a t j).bind asI
def rJ (D : Hp) (a t : Nat) (j : Int32) : Option Int64 := (rV D a t j).bind asJ
def wV (D : Hp) (a t : Nat) (j : Int32) (v : Value) : Option Hp := (D[a]?).bind fun ob => if ob.1 = t then (if j < 0 then none else if j.toNatClampNeg < ob.2.length then some (D.set a (t, ob.2.set j.toNatClampNeg v)) else none) else none
def lA (D : Hp) (a t : Nat) : Option Int32 := (D[a]?).bind fun ob => if ob.1 = t then some ob.2.length.toInt32 else none
def nA (D : Hp) (t : Nat) (n : Int32) (cap : Nat) (z : Value) : Option Hp := if n < 0 then none else if n.toNatClampNeg ≤ cap then some (D ++ [(t, List.replicate n.toNatClampNeg z)]) else none
def cA' (D : Hp) (a t cap : Nat) : Option Hp := (D[a]?).bind fun ob => if ob.1 = t then (if ob.2.length ≤ cap then some (D ++ [(t, ob.2)]) else none) else none
def cL (D : Hp) (a t cap : Nat) : Option Nat := (D[a]?).bind fun ob => if ob.1 = t then (if ob.2.length ≤ cap then some 0 else none) else none
def Ob1 (K : Kt) (Z : State) (h : Heap) (n0 a t : Nat) (vs : List Value) : Prop :=
  (∀ ty, (K t).1 = .array ty → Exa Z h a ("[" ++ ty.toString) ∧ ∃ c : Cell, Arr Z h a c ty ∧ c.slots = (vs.map (sh n0)).toArray ∧ vs.length < 2 ^ 31 ∧ ∀ v ∈ vs, fits ty v = true) ∧
  (∀ C, (K t).1 = .object C → Exa Z h a C ∧ ∀ (i : Nat) (f d : String), (K t).2[i]? = some (f, d) → ∃ v : Value, vs[i]? = some v ∧ Fld Z h a C f d (sh n0 v))
/-- no marker lies in the list (a marker, kind 98: from here on the heap may hold more than the list) -/
def noM (D : Hp) : Prop := ∀ (k t : Nat) (vs : List Value), D[k]? = some (t, vs) → t ≠ 98
def nm (D : Hp) : Option Nat := if D.all (fun ob => ob.1 != 98) then some 0 else none
theorem nm_e {D : Hp} {q : Nat} (h : nm D = some q) : noM D := by
  by_cases c : D.all (fun ob => ob.1 != 98) = true
  · intro k t vs hk e
    have := List.all_eq_true.mp c _ (List.mem_of_getElem? hk)
    subst e
    simp at this
  · rw [nm, if_neg c] at h; cases h
def Ow (K : Kt) (Z : State) (h : Heap) (n0 : Nat) (D : Hp) : Prop := (noM D → h.size = n0 + D.length) ∧ ∀ (k t : Nat) (vs : List Value), D[k]? = some (t, vs) → Ob1 K Z h n0 (n0 + k) t vs
def Lay (K : Kt) (Z : State) (a0 : Array Value) : Prop := ∀ t C, (K t).1 = .object C → (∀ q ∈ (K t).2, Laid Z a0 C C q.1 q.2 ∧ ∃ ty, parseFieldDescriptor q.2 = some ty) ∧ ((K t).2.map Prod.fst).Nodup
section OwnHeap
variable {K : Kt} {Z : State} {h h' : Heap} {n0 : Nat} {D D' : Hp} {a t i : Nat} {v : Value} {j : Int32} {C f d : String} {ty : FieldType}
theorem gV_e (hg : gV D a t i = some v) : ∃ vs, D[a]? = some (t, vs) ∧ vs[i]? = some v := by
  obtain ⟨⟨t', vs⟩, h1, h2⟩ := own_bind hg
  by_cases q : t' = t
  · subst q; rw [if_pos rfl] at h2; exact ⟨vs, h1, h2⟩
  · rw [if_neg q] at h2; cases h2
theorem gI_e {x : Int32} (hg : gI D a t i = some x) : gV D a t i = some (.int x) := by
  obtain ⟨w, h1, h2⟩ := own_bind hg
  cases w <;> cases h2; exact h1
theorem gJ_e {x : Int64} (hg : gJ D a t i = some x) : gV D a t i = some (.long x) := by
  obtain ⟨w, h1, h2⟩ := own_bind hg
  cases w <;> cases h2; exact h1
theorem gR_e {x : Nat} (hg : gR D a t i = some x) : gV D a t i = some (.ref x) := by
  obtain ⟨w, h1, h2⟩ := own_bind hg
  cases w <;> cases h2; exact h1
theorem ck_e {q : Nat} (hg : ck D a t = some q) : ∃ vs, D[a]? = some (t, vs) := by
  obtain ⟨⟨t', vs⟩, h1, h2⟩ := own_bind hg
  by_cases q : t' = t
  · subst q; exact ⟨vs, h1⟩
  · rw [if_neg q] at h2; cases h2
theorem rV_e (hg : rV D a t j = some v) : ∃ vs, D[a]? = some (t, vs) ∧ ¬ j < 0 ∧ vs[j.toNatClampNeg]? = some v := by
  obtain ⟨⟨t', vs⟩, h1, h2⟩ := own_bind hg
  by_cases q : t' = t
  · subst q; rw [if_pos rfl] at h2
    by_cases r : j < 0
    · rw [if_pos r] at h2; cases h2
    · rw [if_neg r] at h2; exact ⟨vs, h1, r, h2⟩
  · rw [if_neg q] at h2; cases h2
theorem rI_e {x : Int32} (hg : rI D a t j = some x) : rV D a t j = some (.int x) := by
  obtain ⟨w, h1, h2⟩ := own_bind hg
  cases w <;> cases h2; exact h1
theorem rJ_e {x : Int64} (hg : rJ D a t j = some x) : rV D a t j = some (.long x) := by
  obtain ⟨w, h1, h2⟩ := own_bind hg
  cases w <;> cases h2; exact h1
theorem wV_e (hg : wV D a t j v = some D') : ∃ vs, D[a]? = some (t, vs) ∧ ¬ j < 0 ∧ j.toNatClampNeg < vs.length ∧ D' = D.set a (t, vs.set j.toNatClampNeg v) := by
  obtain ⟨⟨t', vs⟩, h1, h2⟩ := own_bind hg
  by_cases q : t' = t
  · subst q; rw [if_pos rfl] at h2
    by_cases r : j < 0
    · rw [if_pos r] at h2; cases h2
    · rw [if_neg r] at h2
      by_cases u : j.toNatClampNeg < vs.length
      · rw [if_pos u] at h2; cases h2; exact ⟨vs, h1, r, u, rfl⟩
      · rw [if_neg u] at h2; cases h2
  · rw [if_neg q] at h2; cases h2
theorem pV_e (hg : pV D a t i v = some D') : ∃ vs, D[a]? = some (t, vs) ∧ i < vs.length ∧ D' = D.set a (t, vs.set i v) := by
  obtain ⟨⟨t', vs⟩, h1, h2⟩ := own_bind hg
  by_cases q : t' = t
  · subst q; rw [if_pos rfl] at h2
    by_cases u : i < vs.length
    · rw [if_pos u] at h2; cases h2; exact ⟨vs, h1, u, rfl⟩
    · rw [if_neg u] at h2; cases h2
  · rw [if_neg q] at h2; cases h2
theorem cA_e {cap : Nat} (hg : cA' D a t cap = some D') : ∃ vs, D[a]? = some (t, vs) ∧ vs.length ≤ cap ∧ D' = D ++ [(t, vs)] := by
  obtain ⟨⟨t', vs⟩, h1, h2⟩ := own_bind hg
  by_cases q : t' = t
  · subst q; rw [if_pos rfl] at h2
    by_cases u : vs.length ≤ cap
    · rw [if_pos u] at h2; cases h2; exact ⟨vs, h1, u, rfl⟩
    · rw [if_neg u] at h2; cases h2
  · rw [if_neg q] at h2; cases h2
theorem cL_e {cap q : Nat} (hg : cL D a t cap = some q) : ∃ vs, D[a]? = some (t, vs) ∧ vs.length ≤ cap := by
  obtain ⟨⟨t', vs⟩, h1, h2⟩ := own_bind hg
  by_cases q : t' = t
  · subst q; rw [if_pos rfl] at h2
    by_cases u : vs.length ≤ cap
    · exact ⟨vs, h1, u⟩
    · rw [if_neg u] at h2; cases h2
  · rw [if_neg q] at h2; cases h2
theorem lA_e {x : Int32} (hg : lA D a t = some x) : ∃ vs, D[a]? = some (t, vs) ∧ x = vs.length.toInt32 := by
  obtain ⟨⟨t', vs⟩, h1, h2⟩ := own_bind hg
  by_cases q : t' = t
  · subst q; rw [if_pos rfl] at h2; cases h2; exact ⟨vs, h1, rfl⟩
  · rw [if_neg q] at h2; cases h2
theorem Ow.fld (O : Ow K Z h n0 D) (hg : gV D a t i = some v) (hK : (K t).1 = .object C) (hf : (K t).2[i]? = some (f, d)) : Fld Z h (n0 + a) C f d (sh n0 v) := by
  obtain ⟨vs, h1, h2⟩ := gV_e hg
  obtain ⟨w, h3, h4⟩ := ((O.2 a t vs h1).2 C hK).2 i f d hf
  cases h2.symm.trans h3; exact h4
theorem Ow.fld0 (O : Ow K Z h n0 D) (hg : pV D a t i v = some D') (hK : (K t).1 = .object C) (hf : (K t).2[i]? = some (f, d)) : ∃ w, Fld Z h (n0 + a) C f d w := by
  obtain ⟨vs, h1, h2, -⟩ := pV_e hg
  obtain ⟨w, h3, h4⟩ := ((O.2 a t vs h1).2 C hK).2 i f d hf
  exact ⟨_, h4⟩
theorem Ow.exa (O : Ow K Z h n0 D) {vs : List Value} (hg : D[a]? = some (t, vs)) (hK : (K t).1 = .object C) : Exa Z h (n0 + a) C := ((O.2 a t vs hg).2 C hK).1
theorem Ow.exaC (O : Ow K Z h n0 D) {q : Nat} (hg : ck D a t = some q) (hK : (K t).1 = .object C) : Exa Z h (n0 + a) C := by
  obtain ⟨vs, h1⟩ := ck_e hg; exact O.exa h1 hK
theorem Ow.exaP (O : Ow K Z h n0 D) (hg : pV D a t i v = some D') (hK : (K t).1 = .object C) : Exa Z h (n0 + a) C := by
  obtain ⟨vs, h1, -⟩ := pV_e hg; exact O.exa h1 hK
theorem sh_len (vs : List Value) : ((vs.map (sh n0)).toArray).size = vs.length := by simp
/-- the array at a, its cell, that the place j lies in it and what it holds -/
theorem Ow.arrR (O : Ow K Z h n0 D) (hg : rV D a t j = some v) (hK : (K t).1 = .array ty) : ∃ c : Cell, Arr Z h (n0 + a) c ty ∧ ¬ (j < 0 ∨ c.slots.size ≤ j.toNatClampNeg) ∧ c.slots[j.toNatClampNeg]? = some (sh n0 v) := by
  obtain ⟨vs, h1, h2, h3⟩ := rV_e hg
  obtain ⟨-, c, A, hs, -, -⟩ := (O.2 a t vs h1).1 ty hK
  have hlt := (List.getElem?_eq_some_iff.mp h3).1
  refine ⟨c, A, ?_, ?_⟩
  · rw [hs, sh_len]; intro q; rcases q with q | q
    · exact h2 q
    · omega
  · rw [hs]; simp [h3]
theorem Ow.arrL (O : Ow K Z h n0 D) {x : Int32} (hg : lA D a t = some x) (hK : (K t).1 = .array ty) : ∃ c : Cell, Arr Z h (n0 + a) c ty ∧ c.slots.size.toInt32 = x := by
  obtain ⟨vs, h1, h2⟩ := lA_e hg
  obtain ⟨-, c, A, hs, -, -⟩ := (O.2 a t vs h1).1 ty hK
  exact ⟨c, A, by rw [hs, sh_len, h2]⟩
theorem Ow.arrW (O : Ow K Z h n0 D) (hg : wV D a t j v = some D') (hK : (K t).1 = .array ty) : ∃ c : Cell, Arr Z h (n0 + a) c ty ∧ ¬ (j < 0 ∨ c.slots.size ≤ j.toNatClampNeg) := by
  obtain ⟨vs, h1, h2, h3, -⟩ := wV_e hg
  obtain ⟨-, c, A, hs, -, -⟩ := (O.2 a t vs h1).1 ty hK
  refine ⟨c, A, ?_⟩
  rw [hs, sh_len]; intro q; rcases q with q | q
  · exact h2 q
  · omega
theorem own_get_set {k : Nat} {ob ob' : Nat × List Value} (hk : (D.set a ob)[k]? = some ob') : (k = a ∧ ob' = ob ∧ a < D.length) ∨ (k ≠ a ∧ D[k]? = some ob') := by
  by_cases q : k = a
  · subst q
    rw [List.getElem?_set] at hk
    simp only [if_true] at hk
    by_cases r : k < D.length
    · rw [if_pos r] at hk; cases hk; exact Or.inl ⟨rfl, rfl, r⟩
    · rw [if_neg r] at hk; cases hk
  · rw [List.getElem?_set_ne (Ne.symm q)] at hk; exact Or.inr ⟨q, hk⟩
theorem noM_set {ob vs' : List Value} (h1 : D[a]? = some (t, ob)) (hm : noM (D.set a (t, vs'))) : noM D := fun k t' w hk => by
  by_cases q : k = a
  · subst q
    have e : (t, ob) = (t', w) := Option.some.inj (h1.symm.trans hk)
    cases e
    have hlt := (List.getElem?_eq_some_iff.mp h1).1
    exact hm k t vs' (by rw [List.getElem?_set]; simp [hlt])
  · exact hm k t' w (by rw [List.getElem?_set_ne (Ne.symm q)]; exact hk)
theorem Ob1.other {x y k : Nat} {vs : List Value} {w : Value} {sl : Nat} (B : Ob1 K Z h n0 x k vs) (W : Wr h h' y sl w) (hne : x ≠ y) : Ob1 K Z h' n0 x k vs := by
  refine ⟨fun ty hK => ?_, fun C hK => ?_⟩
  · obtain ⟨E, c, A, r⟩ := B.1 ty hK
    exact ⟨E.wr W, c, A.other W hne, r⟩
  · obtain ⟨E, F⟩ := B.2 C hK
    refine ⟨E.wr W, fun i f d hi => ?_⟩
    obtain ⟨v, h1, h2⟩ := F i f d hi
    exact ⟨v, h1, h2.other W (Or.inl hne)⟩
theorem Ow.st (O : Ow K Z h n0 D) (hg : wV D a t j v = some D') (hK : (K t).1 = .array ty) (hfit : fits ty v = true) (W : Wr h h' (n0 + a) j.toNatClampNeg (sh n0 v)) : Ow K Z h' n0 D' := by
  obtain ⟨vs, h1, h2, h3, rfl⟩ := wV_e hg
  refine ⟨fun hm => by rw [W.size, O.1 (noM_set h1 hm), List.length_set], fun k t' vs' hk => ?_⟩
  rcases own_get_set hk with ⟨rfl, e, -⟩ | ⟨hne, hk'⟩
  · cases e
    refine ⟨fun ty' hK' => ?_, fun C hK' => ?_⟩
    · cases hK.symm.trans hK'
      obtain ⟨E, c, A, hs, hl, hf⟩ := (O.2 _ _ vs h1).1 _ hK
      refine ⟨E.wr W, _, A.same W, ?_, by rw [List.length_set]; exact hl, fun w hw => ?_⟩
      · simp only [Cell.setSlot, hs]
        rw [List.map_set]
        simp
      · rcases List.mem_or_eq_of_mem_set hw with q | q
        · exact hf w q
        · rw [q]; exact hfit
    · rw [hK] at hK'; cases hK'
  · exact (O.2 k t' vs' hk').other W (by omega)
theorem Ow.put {a0 : Array Value} (O : Ow K Z h n0 D) (hL : Lay K Z a0) (hg : pV D a t i v = some D') (hK : (K t).1 = .object C) (hf : (K t).2[i]? = some (f, d)) (W : Wr h h' (n0 + a) (Jvm.RoadKit.slotOf Z C f d) (sh n0 v)) : Ow K Z h' n0 D' := by
  obtain ⟨vs, h1, h3, rfl⟩ := pV_e hg
  refine ⟨fun hm => by rw [W.size, O.1 (noM_set h1 hm), List.length_set], fun k t' vs' hk => ?_⟩
  rcases own_get_set hk with ⟨rfl, e, -⟩ | ⟨hne, hk'⟩
  · cases e
    refine ⟨fun ty' hK' => (by rw [hK] at hK'; cases hK'), fun C' hK' => ?_⟩
    cases hK.symm.trans hK'
    obtain ⟨E, F⟩ := (O.2 _ _ vs h1).2 _ hK
    refine ⟨E.wr W, fun i' f' d' hi' => ?_⟩
    obtain ⟨w, g1, g2⟩ := F i' f' d' hi'
    by_cases q : i' = i
    · subst q
      cases hf.symm.trans hi'
      exact ⟨v, by rw [List.getElem?_set]; simp [h3], g2.same W⟩
    · refine ⟨w, by rw [List.getElem?_set_ne (Ne.symm q)]; exact g1, g2.other W (Or.inr ?_)⟩
      obtain ⟨hl, hn⟩ := hL t C hK
      obtain ⟨l1, ty1, p1⟩ := hl _ (List.mem_of_getElem? hf)
      obtain ⟨l2, ty2, p2⟩ := hl _ (List.mem_of_getElem? hi')
      refine slot_ne l2 l1 (fun e => q ?_) p2 p1
      have m1 : ((K t).2.map Prod.fst)[i]? = some f := by rw [List.getElem?_map, hf]; rfl
      have m2 : ((K t).2.map Prod.fst)[i']? = some f' := by rw [List.getElem?_map, hi']; rfl
      obtain ⟨b1, c1⟩ := List.getElem?_eq_some_iff.mp m1
      obtain ⟨b2, c2⟩ := List.getElem?_eq_some_iff.mp m2
      exact (List.getElem_inj hn).mp (by rw [c1, c2]; exact e)
  · exact (O.2 k t' vs' hk').other W (by omega)
theorem Ob1.ext {x k : Nat} {vs : List Value} (B : Ob1 K Z h n0 x k vs) (E : Ext h h') : Ob1 K Z h' n0 x k vs := by
  refine ⟨fun ty hK => ?_, fun C hK => ?_⟩
  · obtain ⟨F, c, A, r⟩ := B.1 ty hK
    exact ⟨F.ext E, c, A.ext E, r⟩
  · obtain ⟨X, F⟩ := B.2 C hK
    refine ⟨X.ext E, fun i f d hi => ?_⟩
    obtain ⟨v, h1, h2⟩ := F i f d hi
    exact ⟨v, h1, h2.ext E⟩
theorem Ow.push {vs : List Value} (O : Ow K Z h n0 D) (hm : noM D) (E : Ext h h') (hsz : h'.size = h.size + 1) (B : Ob1 K Z h' n0 (n0 + D.length) t vs) : Ow K Z h' n0 (D ++ [(t, vs)]) := by
  refine ⟨fun _ => by rw [hsz, O.1 hm, List.length_append]; rfl, fun k t' vs' hk => ?_⟩
  by_cases q : k < D.length
  · rw [List.getElem?_append_left q] at hk; exact (O.2 k t' vs' hk).ext E
  · rw [List.getElem?_append_right (Nat.le_of_not_lt q)] at hk
    have e : k - D.length = 0 := by
      have := (List.getElem?_eq_some_iff.mp hk).1
      simp only [List.length_singleton] at this; omega
    rw [e] at hk
    have hk2 : (t, vs) = (t', vs') := Option.some.inj hk
    cases hk2
    have : k = D.length := by omega
    rw [this]; exact B
/-- the heap has grown past the list: a marker -/
theorem Ow.mark (O : Ow K Z h n0 D) (E : Ext h h') (h98 : (K 98).1 = .int) : Ow K Z h' n0 (D ++ [(98, [])]) := by
  refine ⟨fun hm => absurd (rfl : (98 : Nat) = 98) (hm D.length 98 [] (by simp)), fun k t' vs' hk => ?_⟩
  by_cases q : k < D.length
  · rw [List.getElem?_append_left q] at hk; exact (O.2 k t' vs' hk).ext E
  · rw [List.getElem?_append_right (Nat.le_of_not_lt q)] at hk
    have e : k - D.length = 0 := by
      have := (List.getElem?_eq_some_iff.mp hk).1
      simp only [List.length_singleton] at this; omega
    rw [e] at hk
    have hk2 : ((98, []) : Nat × List Value) = (t', vs') := Option.some.inj hk
    cases hk2
    exact ⟨fun ty hK => (by rw [h98] at hK; cases hK), fun C hK => (by rw [h98] at hK; cases hK)⟩
/-- a field that the list does not hold is written -/
theorem Ow.putU {a0 : Array Value} {vs : List Value} (O : Ow K Z h n0 D) (hL : Lay K Z a0) (hD : D[a]? = some (t, vs)) (hK : (K t).1 = .object C) (hne : ∀ z ∈ (K t).2, z.1 ≠ f) (Lf : Laid Z a0 C C f d) (hty : parseFieldDescriptor d = some ty) (W : Wr h h' (n0 + a) (Jvm.RoadKit.slotOf Z C f d) v) : Ow K Z h' n0 D := by
  refine ⟨fun hm => by rw [W.size, O.1 hm], fun k t' vs' hk => ?_⟩
  by_cases q : k = a
  · subst q
    have e : (t, vs) = (t', vs') := Option.some.inj (hD.symm.trans hk)
    cases e
    refine ⟨fun ty' hK' => (by rw [hK] at hK'; cases hK'), fun C' hK' => ?_⟩
    cases hK.symm.trans hK'
    obtain ⟨E, F⟩ := (O.2 _ _ vs hD).2 _ hK
    refine ⟨E.wr W, fun i' f' d' hi' => ?_⟩
    obtain ⟨w, g1, g2⟩ := F i' f' d' hi'
    refine ⟨w, g1, g2.other W (Or.inr ?_)⟩
    obtain ⟨l2, ty2, p2⟩ := (hL t C hK).1 _ (List.mem_of_getElem? hi')
    exact slot_ne l2 Lf (hne _ (List.mem_of_getElem? hi')) p2 hty
  · exact (O.2 k t' vs' hk).other W (by omega)
theorem sh_default (ty : FieldType) : sh n0 (defaultValue ty) = defaultValue ty := by cases ty <;> rfl
theorem own_ow0 (h : Heap) : Ow K Z h h.size [] := ⟨fun _ => by simp, fun k t vs hk => by simp at hk⟩
end OwnHeap
/-! 3. the laws of the library, over that list -/
section OwnLaws
variable {p : Program} {l : Launch} {e : Env} {R : Room} {s : State} {m : MethodId} {args : Array Value} {below : List Frame} {meth : Method} {c : Code} {T : State} {locs : List Loc} {cells slots : Nat} {Z : State} {a0 : Array Value} {h : Heap} {K : Kt} {n0 : Nat} {D D' : Hp} {a t : Nat}
theorem ldW (X : Stand p l e R s m args below meth c T locs cells slots) (hx : p.tables.exec = Jvm.exec) (hZ : Z.Warmed39 s.vm) (eT : T.heap = h) (O : Ow K Z h n0 D) {j : Int32} {x : Int32} (hg : rI D a t j = some x) (hK : (K t).1 = .array .int)
    {g : JFrame} (hgm : g.method = m) {rest : List Value} (hs : g.stack = .int j :: .ref (n0 + a) :: rest) (hd : decode c.code g.pc = .ok (.iaload, 1)) (target : State)
    (hr : Steps p.tables e below (T.setTop { g with pc := g.pc + 1, stack := .int x :: rest }) target) : Steps p.tables e below (T.setTop g) target := by
  obtain ⟨cl, A, hin, hat⟩ := O.arrR (rI_e hg) hK
  exact X.iaload hx (v := .int x) (by rw [eT]; exact A.1) (State.isArrayOf_alike hZ.alike A.2.1) A.2.2 hin hat hgm hs hd target hr
theorem ldB (X : Stand p l e R s m args below meth c T locs cells slots) (hx : p.tables.exec = Jvm.exec) (hZ : Z.Warmed39 s.vm) (eT : T.heap = h) (O : Ow K Z h n0 D) {j : Int32} {x : Int32} (hg : rI D a t j = some x) (hK : (K t).1 = .array .byte)
    {g : JFrame} (hgm : g.method = m) {rest : List Value} (hs : g.stack = .int j :: .ref (n0 + a) :: rest) (hd : decode c.code g.pc = .ok (.baload, 1)) (target : State)
    (hr : Steps p.tables e below (T.setTop { g with pc := g.pc + 1, stack := .int x :: rest }) target) : Steps p.tables e below (T.setTop g) target := by
  obtain ⟨cl, A, hin, hat⟩ := O.arrR (rI_e hg) hK
  exact X.baloadBytes hx (v := .int x) (by rw [eT]; exact A.1) (State.isArrayOf_alike hZ.alike A.2.1) A.2.2 hin hat hgm hs hd target hr
theorem ldJ (X : Stand p l e R s m args below meth c T locs cells slots) (hx : p.tables.exec = Jvm.exec) (hZ : Z.Warmed39 s.vm) (eT : T.heap = h) (O : Ow K Z h n0 D) {j : Int32} {x : Int64} (hg : rJ D a t j = some x) (hK : (K t).1 = .array .long)
    {g : JFrame} (hgm : g.method = m) {rest : List Value} (hs : g.stack = .int j :: .ref (n0 + a) :: rest) (hd : decode c.code g.pc = .ok (.laload, 1)) (target : State)
    (hr : Steps p.tables e below (T.setTop { g with pc := g.pc + 1, stack := .long x :: rest }) target) : Steps p.tables e below (T.setTop g) target := by
  obtain ⟨cl, A, hin, hat⟩ := O.arrR (rJ_e hg) hK
  exact X.laload hx (v := .long x) (by rw [eT]; exact A.1) (State.isArrayOf_alike hZ.alike A.2.1) A.2.2 hin hat hgm hs hd target hr
theorem lenW' (X : Stand p l e R s m args below meth c T locs cells slots) (hx : p.tables.exec = Jvm.exec) (hZ : Z.Warmed39 s.vm) (eT : T.heap = h) (O : Ow K Z h n0 D) {x : Int32} (hg : lA D a t = some x) {ty : FieldType} (hK : (K t).1 = .array ty)
    {g : JFrame} (hgm : g.method = m) {rest : List Value} (hs : g.stack = .ref (n0 + a) :: rest) (hd : decode c.code g.pc = .ok (.arraylength, 1)) (target : State)
    (hr : Steps p.tables e below (T.setTop { g with pc := g.pc + 1, stack := .int x :: rest }) target) : Steps p.tables e below (T.setTop g) target := by
  obtain ⟨cl, A, hl⟩ := O.arrL hg hK
  subst hl
  exact X.arraylength hx (by rw [eT]; exact A.1) (State.isArrayOf_alike hZ.alike A.2.1) hgm hs hd target hr
theorem stIW (X : Stand p l e R s m args below meth c T locs cells slots) (hx : p.tables.exec = Jvm.exec) (hZ : Z.Warmed39 s.vm) (eT : T.heap = h) (O : Ow K Z h n0 D) (N : Fr n0 locs) {j x : Int32} (hg : wV D a t j (.int x) = some D') (hK : (K t).1 = .array .int)
    {g : JFrame} (hgm : g.method = m) {rest : List Value} (hs : g.stack = .int x :: .int j :: .ref (n0 + a) :: rest) (hd : decode c.code g.pc = .ok (.iastore, 1)) :
    ∃ T' h' L, Stand p l e R s m args below meth c T' L cells slots ∧ T'.heap = h' ∧ h.size ≤ h'.size ∧ Ow K Z h' n0 D' ∧ Fr n0 L ∧ ∀ target, Steps p.tables e below (T'.setTop { g with pc := g.pc + 1, stack := rest }) target → Steps p.tables e below (T.setTop g) target := by
  obtain ⟨cl, A, hin⟩ := O.arrW hg hK
  obtain ⟨T', h', X', e', W, st⟩ := stI X hx hZ eT A hin hgm hs hd
  exact ⟨T', h', _, X', e', Nat.le_of_eq W.size.symm, O.st hg hK rfl W, Fr.snoc X' N (Nat.le_add_right _ _), st⟩
theorem stBW (X : Stand p l e R s m args below meth c T locs cells slots) (hx : p.tables.exec = Jvm.exec) (hZ : Z.Warmed39 s.vm) (eT : T.heap = h) (O : Ow K Z h n0 D) (N : Fr n0 locs) {j x : Int32} (hg : wV D a t j (.int x.toInt8.toInt32) = some D') (hK : (K t).1 = .array .byte)
    {g : JFrame} (hgm : g.method = m) {rest : List Value} (hs : g.stack = .int x :: .int j :: .ref (n0 + a) :: rest) (hd : decode c.code g.pc = .ok (.bastore, 1)) :
    ∃ T' h' L, Stand p l e R s m args below meth c T' L cells slots ∧ T'.heap = h' ∧ h.size ≤ h'.size ∧ Ow K Z h' n0 D' ∧ Fr n0 L ∧ ∀ target, Steps p.tables e below (T'.setTop { g with pc := g.pc + 1, stack := rest }) target → Steps p.tables e below (T.setTop g) target := by
  obtain ⟨cl, A, hin⟩ := O.arrW hg hK
  obtain ⟨T', h', X', e', W, st⟩ := stB X hx hZ eT A hin hgm hs hd
  exact ⟨T', h', _, X', e', Nat.le_of_eq W.size.symm, O.st hg hK (fits_nar_byte _) W, Fr.snoc X' N (Nat.le_add_right _ _), st⟩
theorem stJW (X : Stand p l e R s m args below meth c T locs cells slots) (hx : p.tables.exec = Jvm.exec) (hZ : Z.Warmed39 s.vm) (eT : T.heap = h) (O : Ow K Z h n0 D) (N : Fr n0 locs) {j : Int32} {x : Int64} (hg : wV D a t j (.long x) = some D') (hK : (K t).1 = .array .long)
    {g : JFrame} (hgm : g.method = m) {rest : List Value} (hs : g.stack = .long x :: .int j :: .ref (n0 + a) :: rest) (hd : decode c.code g.pc = .ok (.lastore, 1)) :
    ∃ T' h' L, Stand p l e R s m args below meth c T' L cells slots ∧ T'.heap = h' ∧ h.size ≤ h'.size ∧ Ow K Z h' n0 D' ∧ Fr n0 L ∧ ∀ target, Steps p.tables e below (T'.setTop { g with pc := g.pc + 1, stack := rest }) target → Steps p.tables e below (T.setTop g) target := by
  obtain ⟨cl, A, hin⟩ := O.arrW hg hK
  obtain ⟨T', h', X', e', W, st⟩ := stJ X hx hZ eT A hin hgm hs hd
  exact ⟨T', h', _, X', e', Nat.le_of_eq W.size.symm, O.st hg hK rfl W, Fr.snoc X' N (Nat.le_add_right _ _), st⟩
theorem putW (X : Stand p l e R s m args below meth c T locs cells slots) (hx : p.tables.exec = Jvm.exec) (hZ : Z.Warmed39 s.vm) {own C f d : String} {index kk i : Nat} {ty : FieldType} (hown : s.vm.findClass own = some m.cls) (w : (Cond.fieldLink own index C f d).before a0 Z = true) (hL : Lay K Z a0)
    (eT : T.heap = h) (O : Ow K Z h n0 D) (N : Fr n0 locs) {v : Value} (hg : pV D a t i v = some D') (hK : (K t).1 = .object C) (hf : (K t).2[i]? = some (f, d)) (L : (Cond.lays C C f d).before a0 Z = true ∨ ((Cond.laysFinal C C f d).before a0 Z = true ∧ own = C ∧ meth.name = "<init>")) (wi : (Cond.instantiable C kk).before a0 Z = true)
    (hty : parseFieldDescriptor d = some ty) (hn : narrow ty (sh n0 v) = sh n0 v) (hfit : fits ty (sh n0 v) = true) {g : JFrame} (hgm : g.method = m) {rest : List Value} (hs : g.stack = sh n0 v :: .ref (n0 + a) :: rest) (hd : decode c.code g.pc = .ok (.putfield index, 3)) :
    ∃ T' h' L, Stand p l e R s m args below meth c T' L cells slots ∧ T'.heap = h' ∧ h.size ≤ h'.size ∧ Ow K Z h' n0 D' ∧ Fr n0 L ∧ ∀ target, Steps p.tables e below (T'.setTop { g with pc := g.pc + 3, stack := rest }) target → Steps p.tables e below (T.setTop g) target := by
  obtain ⟨old, F⟩ := O.fld0 hg hK hf
  obtain ⟨T', h', X', e', W, st⟩ := putF X hx hZ hown (host := "") (Or.inl w) Via.refl eT F (O.exaP hg hK) L wi hty hn hfit hgm hs hd
  exact ⟨T', h', _, X', e', Nat.le_of_eq W.size.symm, O.put hL hg hK hf W, Fr.snoc X' N (Nat.le_add_right _ _), st⟩
theorem newW (X : Stand p l e R s m args below meth c T locs cells slots) (hx : p.tables.exec = Jvm.exec) (hZ : Z.Warmed39 s.vm) {own C : String} {index n : Nat} (hown : s.vm.findClass own = some m.cls) (w : (Cond.classLink own index C).before a0 Z = true) (wi : (Cond.instantiable C n).before a0 Z = true) (wz : (Cond.initialized C).before a0 Z = true) (hL : Lay K Z a0) (eT : T.heap = h) (O : Ow K Z h n0 D) {qm : Nat} (hnm : nm D = some qm)
    (hK : (K t).1 = .object C) {ds : List Value} (hds : ∀ q ∈ (K t).2.zipIdx, ∃ ty, parseFieldDescriptor q.1.2 = some ty ∧ ds[q.2]? = some (defaultValue ty)) {g : JFrame} (hg : g.method = m) (hd : decode c.code g.pc = .ok (.new index, 3)) (hc : cells + 1 ≤ R.cells) (hl : slots + n ≤ R.slots) :
    ∃ T' h', Stand p l e R s m args below meth c T' locs (cells + 1) (slots + n) ∧ T'.heap = h' ∧ h.size ≤ h'.size ∧ Ow K Z h' n0 (D ++ [(t, ds)]) ∧ ∀ target, Steps p.tables e below (T'.setTop { g with pc := g.pc + 3, stack := .ref (n0 + D.length) :: g.stack }) target → Steps p.tables e below (T.setTop g) target := by
  obtain ⟨vm', cC, kC, h1, h2, h3, h4, X', st⟩ := X.newCold hx hown (mv hZ w) (mv hZ wi) (mv hZ wz) hg hd hc hl
  subst eT
  rw [hZ.alike.findClass] at h1
  obtain ⟨kZ, z1, -⟩ := Vm.findClass_spec h1
  obtain ⟨k', z2, z3⟩ := hZ.alike.2.2 _ _ z1
  cases h2.symm.trans z2
  have ei : kC.instanceTypes = kZ.instanceTypes := by rw [z3]
  have hN : (T.heap.push { cls := cC, slots := kC.instanceTypes.map defaultValue, vm := .none })[T.heap.size]? = some { cls := cC, slots := kC.instanceTypes.map defaultValue, vm := .none } := by simp
  have E : Ext T.heap (T.heap.push { cls := cC, slots := kC.instanceTypes.map defaultValue, vm := .none }) := ⟨by simp, fun a c h => by
    rw [Array.getElem?_push_lt (Array.getElem?_eq_some_iff.mp h).1]; exact (Array.getElem?_eq_getElem _).symm.trans h⟩
  have hsz := O.1 (nm_e hnm)
  refine ⟨_, _, X', rfl, E.1, O.push (nm_e hnm) E (by simp) ⟨fun ty hK' => (by rw [hK] at hK'; cases hK'), fun C' hK' => ?_⟩, by rw [← hsz]; exact st⟩
  cases hK.symm.trans hK'
  rw [← hsz]
  refine ⟨⟨_, kZ, hN, h1, z1, rfl, fun _ => by simp [ei]⟩, fun i f d hi => ?_⟩
  obtain ⟨ty, t1, t2⟩ := hds ((f, d), i) (List.mem_zipIdx_iff_getElem?.mpr hi)
  refine ⟨_, t2, ?_⟩
  rw [sh_default]
  obtain ⟨c1, k1, cf, kf, i', f', a1, a2, a3, a4, a5, a6, -⟩ := ((hL t C hK).1 _ (List.mem_of_getElem? hi)).1.spec
  cases h1.symm.trans a1
  cases z1.symm.trans a2
  exact ⟨_, cf, kf, i', f', hN, a3, a4, by simp, rfl, a5, by simp [ei, a6, (State.fieldFound?_type a3 t1).2]⟩
theorem newAW (X : Stand p l e R s m args below meth c T locs cells slots) (hx : p.tables.exec = Jvm.exec) (hZ : Z.Warmed39 s.vm) {aty : ArrayType} (w : (Cond.arrayClass (newarray.typeOf aty)).before a0 Z = true) (eT : T.heap = h) (O : Ow K Z h n0 D) {qm : Nat} (hnm : nm D = some qm) (hK : (K t).1 = .array (newarray.typeOf aty))
    {n : Int32} {cap : Nat} {z : Value} (hz : z = defaultValue (newarray.typeOf aty)) (hn : nA D t n cap z = some D') {g : JFrame} (hg : g.method = m) (hd : decode c.code g.pc = .ok (.newarray aty, 2)) {rest : List Value} (hs : g.stack = .int n :: rest)
    (hb : cap * 8 ≤ 536870912) (hc : cells + 1 ≤ R.cells) (hl : slots + cap ≤ R.slots) :
    ∃ T' h', Stand p l e R s m args below meth c T' locs (cells + 1) (slots + cap) ∧ T'.heap = h' ∧ h.size ≤ h'.size ∧ Ow K Z h' n0 D' ∧ ∀ target, Steps p.tables e below (T'.setTop { g with pc := g.pc + 2, stack := .ref (n0 + D.length) :: rest }) target → Steps p.tables e below (T.setTop g) target := by
  have hcb : componentBytes (newarray.typeOf aty) ≤ 8 := by cases aty <;> decide
  by_cases q : n < 0
  · simp only [nA, if_pos q] at hn; cases hn
  simp only [nA, if_neg q] at hn
  by_cases hcap : n.toNatClampNeg ≤ cap
  · rw [if_pos hcap] at hn
    cases hn
    obtain ⟨cA, kA, comp, h1, h2, h3, X', st⟩ := X.newarrayPrim hx (mvA hZ w) hg hd hs q (Nat.le_trans (Nat.mul_le_mul hcap hcb) hb) hc (by omega)
    subst eT
    rw [hZ.alike.findClass] at h1
    obtain ⟨kZ, z1, -⟩ := Vm.findClass_spec h1
    obtain ⟨k', z2, z3⟩ := hZ.alike.2.2 _ _ z1
    cases h2.symm.trans z2
    have hsz := O.1 (nm_e hnm)
    refine ⟨_, _, X'.more (Nat.le_refl _) (by omega), rfl, by simp, O.push (h' := T.heap.push _) (nm_e hnm) ⟨by simp, fun a c h => ?_⟩ (by simp) ⟨fun ty hK' => ?_, fun C hK' => by rw [hK] at hK'; cases hK'⟩, by rw [← hsz]; exact st⟩
    · rw [Array.getElem?_push_lt (Array.getElem?_eq_some_iff.mp h).1]; exact (Array.getElem?_eq_getElem _).symm.trans h
    · cases hK.symm.trans hK'
      rw [← hsz]
      have ek : kZ.kind = .array comp (newarray.typeOf aty) := by rw [← h3, z3]
      refine ⟨⟨_, kZ, Array.getElem?_push_size, h1, z1, rfl, fun q => by rw [ek] at q; cases q⟩, _, ⟨Array.getElem?_push_size, ⟨by simp, kZ, z1, comp, ek⟩, by simp⟩, ?_, ?_, fun v hv => ?_⟩
      · rw [hz, List.map_replicate, sh_default]; simp
      · rw [List.length_replicate]; exact (back32 q).2
      · rw [(List.mem_replicate.mp hv).2, hz]; cases aty <;> rfl
  · rw [if_neg hcap] at hn; cases hn
/-! 4. contracts and calls -/
def Qw (K : Kt) (Z : State) (n0 : Nat) (r : Option Value) (D' : Hp) : Option Value → Heap → List Loc → Prop := fun v h L => v = r ∧ Fr n0 L ∧ Ow K Z h n0 D'
def Qz (K : Kt) (Z : State) (n0 : Nat) (r : Option Value) (D' : Hp) (h0 : Heap) : Option Value → Heap → List Loc → Prop := fun v h L => Qw K Z n0 r D' v h L ∧ h0.size ≤ h.size
def Ct (K : Kt) (l : Launch) (Z : State) (y : MethodName) (cw : Jvm.Cond) (rm : Room) (n0 : Nat) (D : Hp) (as' : Array Value) (r : Option Value) (D' : Hp) : Prop :=
  ∀ (h0 : Heap) (ws : List Jvm.Cond), Ow K Z h0 n0 D → MetFree l y (head1 (cw :: ws) rm) (fun a U => a = as' ∧ Z.Warmed39 U.vm ∧ U.heap = h0) (fun _ _ _ _ _ => True) (fun _ U o U' => ∃ v L, o = .returned v ∧ Qz K Z n0 r D' h0 v U'.heap L ∧ FrameEnd U o U' L rm.cells rm.slots)
/-- what stands still through a body -/
def Cx (p : Program) (s : State) (m : MethodId) (meth : Method) (c : Code) (Z : State) (bytes : ByteArray) (maxL : Nat) (ret : Option FieldType) (own nm : String) : Prop :=
  p.tables.exec = Jvm.exec ∧ Z.Warmed39 s.vm ∧ c.code = bytes ∧ c.maxLocals = maxL ∧ s.vm.findClass own = some m.cls ∧ meth.name = nm ∧ meth.sig.returnType = ret ∧ meth.locks = false
variable {y : MethodName} {bytes : ByteArray} {maxL : Nat} {ret : Option FieldType} {rm : Room} {r : Option Value}
theorem Ct.of {as' : Array Value} (hpl : plainFor y = true) (body : ∀ (p : Program) (e : Env) (s : State) (m : MethodId) (below : List Frame) (meth : Method) (c : Code) (s₁ : State) (h0 : Heap), Cx p s m meth c Z bytes maxL ret y.cls y.name → Stand p l e rm s m as' below meth c s₁ [] 0 0 → s₁.heap = h0 → Ow K Z h0 n0 D →
      Gl p e below s rm.cells rm.slots (Qw K Z n0 r D') (s₁.setTop (entryFrame m as' maxL))) : Ct K l Z y (.code y bytes maxL ret) rm n0 D as' r D' := by
  intro h0 ws O
  refine MetFree.of_bodySF hpl hisR ?_
  intro p e s m args below meth c s₁ Bd hml0 hP hK
  obtain ⟨rfl, hZ, hh⟩ := hP
  obtain ⟨t, o, g1, g2, g3, v, L, g4, g5, g6⟩ := body p e s m below meth c s₁ h0 ⟨Bd.exec, hZ, Bd.bytes, hml0, findClass_of_methodNamed Bd.named, (name_of_methodNamed Bd.named Bd.method).1, Bd.returns, BodyLoose.notSynchronized Bd⟩ (Stand.of_body Bd) (by rw [← hh, Bd.state]; rfl) O
  exact ⟨t, o, g1, g2, g3, v, L, g4, ⟨g5, by rw [← hh]; exact g6.2.2.2.1⟩, g6⟩
theorem Ct.ofH {as' : Array Value} {hs : List (Nat × Nat × Nat × Nat)} (hpl : plainFor y = true) (body : ∀ (p : Program) (e : Env) (s : State) (m : MethodId) (below : List Frame) (meth : Method) (c : Code) (s₁ : State) (h0 : Heap), Cx p s m meth c Z bytes maxL ret y.cls y.name → Stand p l e rm s m as' below meth c s₁ [] 0 0 → s₁.heap = h0 → Ow K Z h0 n0 D →
      Gl p e below s rm.cells rm.slots (Qw K Z n0 r D') (s₁.setTop (entryFrame m as' maxL))) : Ct K l Z y (.codeWith y bytes maxL ret hs) rm n0 D as' r D' := by
  intro h0 ws O
  refine MetFree.of_bodySF hpl hisWith ?_
  intro p e s m args below meth c s₁ Bd hml0 hP hK
  obtain ⟨rfl, hZ, hh⟩ := hP
  obtain ⟨t, o, g1, g2, g3, v, L, g4, g5, g6⟩ := body p e s m below meth c s₁ h0 ⟨Bd.exec, hZ, Bd.bytes, hml0, findClass_of_methodNamed Bd.named, (name_of_methodNamed Bd.named Bd.method).1, Bd.returns, BodyLoose.notSynchronized Bd⟩ (Stand.of_body Bd) (by rw [← hh, Bd.state]; rfl) O
  exact ⟨t, o, g1, g2, g3, v, L, g4, ⟨g5, by rw [← hh]; exact g6.2.2.2.1⟩, g6⟩
theorem callSW (X : Stand p l e R s m args below meth c T locs cells slots) (hx : p.tables.exec = Jvm.exec) (hZ : Z.Warmed39 s.vm) {own : String} {index : Nat} (hown : s.vm.findClass own = some m.cls) (w1 : (Cond.methodLink own index y).before a0 Z = true) (w2 : (Cond.static y).before a0 Z = true) (w3 : (Cond.initialized y.cls).before a0 Z = true) (w4 : (Cond.code y bytes maxL ret).before a0 Z = true)
    (hy : y.cls ≠ "java/lang/invoke/MethodHandle" ∧ y.cls ≠ "java/lang/invoke/VarHandle") (eT : T.heap = h) (O : Ow K Z h n0 D) (N : Fr n0 locs) {as' : List Value} (hM : Ct K l Z y (.code y bytes maxL ret) rm n0 D as'.toArray r D') {W kc ks : Nat} (hkc : rm.cells = kc) (hks : rm.slots = ks) (hf : rm.frames + 1 ≤ R.frames) (hl : W + (maxL + 11) + rm.locals ≤ R.locals)
    {g : JFrame} (hg : g.method = m) (hsize : g.locals.size = c.maxLocals) {rest : List Value} (hlen : ∀ sig, parseMethodDescriptor y.desc = some sig → as'.length = sig.parameters.length) (hs : g.stack = as'.reverse ++ rest) (hW : 2 * g.monitorRoom + (rest.map fun v => v.category).sum ≤ W) (hd : decode c.code g.pc = .ok (.invokestatic index, 3)) (hc : cells + kc ≤ R.cells) (hsl : slots + ks ≤ R.slots) :
    ∃ T' h' L, Stand p l e R s m args below meth c T' L (cells + kc) (slots + ks) ∧ T'.heap = h' ∧ h.size ≤ h'.size ∧ Ow K Z h' n0 D' ∧ Fr n0 L ∧ ∀ target, Steps p.tables e below (T'.setTop { g with pc := g.pc + 3, stack := r.toList ++ rest }) target → Steps p.tables e below (T.setTop g) target := by
  subst hkc hks
  obtain ⟨_, _, ⟨T', L', k', n'⟩, -, X', ⟨Lc, hQ, hL, hk, hn⟩, st⟩ := Jvm.LawKit.callS X hx hown (mvT hZ w1) (mvT hZ w2) (mvT hZ w3) (mvT hZ w4) hy (backOf (W := W) (hM h [] O) hZ w4 w3 hf hl) hg hsize (argsL := as') hlen hs hW hd (fun _ _ => ⟨rfl, eT, hc, hsl⟩)
  dsimp only [Pt.U, Pt.locs, Pt.cells, Pt.slots] at X' hL hk hn st hQ
  subst hL hk hn
  obtain ⟨⟨rfl, N', O'⟩, hz⟩ := hQ
  exact ⟨T', _, _, X', rfl, hz, O', N.app N', st⟩
theorem callSHW (X : Stand p l e R s m args below meth c T locs cells slots) (hx : p.tables.exec = Jvm.exec) (hZ : Z.Warmed39 s.vm) {own : String} {index : Nat} {hs' : List (Nat × Nat × Nat × Nat)} (hown : s.vm.findClass own = some m.cls) (w1 : (Cond.methodLink own index y).before a0 Z = true) (w2 : (Cond.static y).before a0 Z = true) (w3 : (Cond.initialized y.cls).before a0 Z = true) (w4 : (Cond.codeWith y bytes maxL ret hs').before a0 Z = true)
    (hy : y.cls ≠ "java/lang/invoke/MethodHandle" ∧ y.cls ≠ "java/lang/invoke/VarHandle") (eT : T.heap = h) (O : Ow K Z h n0 D) (N : Fr n0 locs) {as' : List Value} (hM : Ct K l Z y (.codeWith y bytes maxL ret hs') rm n0 D as'.toArray r D') {W kc ks : Nat} (hkc : rm.cells = kc) (hks : rm.slots = ks) (hf : rm.frames + 1 ≤ R.frames) (hl : W + (maxL + 11) + rm.locals ≤ R.locals)
    {g : JFrame} (hg : g.method = m) (hsize : g.locals.size = c.maxLocals) {rest : List Value} (hlen : ∀ sig, parseMethodDescriptor y.desc = some sig → as'.length = sig.parameters.length) (hs : g.stack = as'.reverse ++ rest) (hW : 2 * g.monitorRoom + (rest.map fun v => v.category).sum ≤ W) (hd : decode c.code g.pc = .ok (.invokestatic index, 3)) (hc : cells + kc ≤ R.cells) (hsl : slots + ks ≤ R.slots) :
    ∃ T' h' L, Stand p l e R s m args below meth c T' L (cells + kc) (slots + ks) ∧ T'.heap = h' ∧ h.size ≤ h'.size ∧ Ow K Z h' n0 D' ∧ Fr n0 L ∧ ∀ target, Steps p.tables e below (T'.setTop { g with pc := g.pc + 3, stack := r.toList ++ rest }) target → Steps p.tables e below (T.setTop g) target := by
  subst hkc hks
  obtain ⟨_, _, ⟨T', L', k', n'⟩, -, X', ⟨Lc, hQ, hL, hk, hn⟩, st⟩ := callSH X hx hown (mvT hZ w1) (mvT hZ w2) (mvT hZ w3) (mvT hZ w4) hy (backOfWith (W := W) (hM h [] O) hZ w4 w3 hf hl) hg hsize (argsL := as') hlen hs hW hd (fun _ _ => ⟨rfl, eT, hc, hsl⟩)
  dsimp only [Pt.U, Pt.locs, Pt.cells, Pt.slots] at X' hL hk hn st hQ
  subst hL hk hn
  obtain ⟨⟨rfl, N', O'⟩, hz⟩ := hQ
  exact ⟨T', _, _, X', rfl, hz, O', N.app N', st⟩
theorem callIW (X : Stand p l e R s m args below meth c T locs cells slots) (hx : p.tables.exec = Jvm.exec) (hZ : Z.Warmed39 s.vm) {own : String} {index : Nat} (hy1 : y.name = "<init>") (hown : s.vm.findClass own = some m.cls) (w1 : (Cond.methodLink own index y).before a0 Z = true) (w2 : (Cond.instanceMethod y).before a0 Z = true) (w3 : (Cond.initialized y.cls).before a0 Z = true) (w4 : (Cond.code y bytes maxL none).before a0 Z = true)
    (hy : y.cls ≠ "java/lang/invoke/MethodHandle" ∧ y.cls ≠ "java/lang/invoke/VarHandle") (eT : T.heap = h) (O : Ow K Z h n0 D) (N : Fr n0 locs) {as' : List Value} (hM : Ct K l Z y (.code y bytes maxL none) rm n0 D (.ref (n0 + a) :: as').toArray r D') {W kc ks : Nat} (hkc : rm.cells = kc) (hks : rm.slots = ks) (hf : rm.frames + 1 ≤ R.frames) (hl : W + (maxL + 11) + rm.locals ≤ R.locals)
    {g : JFrame} (hg : g.method = m) (hsize : g.locals.size = c.maxLocals) {rest : List Value} (hlen : ∀ sig, parseMethodDescriptor y.desc = some sig → as'.length = sig.parameters.length) (hs : g.stack = as'.reverse ++ .ref (n0 + a) :: rest) (hW : 2 * g.monitorRoom + (rest.map fun v => v.category).sum ≤ W) (hd : decode c.code g.pc = .ok (.invokespecial index, 3)) (hc : cells + kc ≤ R.cells) (hsl : slots + ks ≤ R.slots) :
    ∃ T' h' L, Stand p l e R s m args below meth c T' L (cells + kc) (slots + ks) ∧ T'.heap = h' ∧ h.size ≤ h'.size ∧ Ow K Z h' n0 D' ∧ Fr n0 L ∧ ∀ target, Steps p.tables e below (T'.setTop { g with pc := g.pc + 3, stack := r.toList ++ rest }) target → Steps p.tables e below (T.setTop g) target := by
  subst hkc hks
  obtain ⟨_, _, ⟨T', L', k', n'⟩, -, X', ⟨Lc, hQ, hL, hk, hn⟩, st⟩ := Jvm.LawKit.callI X hx hown hy1 (mvT hZ w1) (mvT hZ w2) (mvT hZ w4) hy (backOf (W := W) (hM h [] O) hZ w4 w3 hf hl) hg hsize (argsL := as') hlen hs hW hd (fun _ _ => ⟨rfl, eT, hc, hsl⟩)
  dsimp only [Pt.U, Pt.locs, Pt.cells, Pt.slots] at X' hL hk hn st hQ
  subst hL hk hn
  obtain ⟨⟨rfl, N', O'⟩, hz⟩ := hQ
  exact ⟨T', _, _, X', rfl, hz, O', N.app N', st⟩
theorem callVW (X : Stand p l e R s m args below meth c T locs cells slots) (hx : p.tables.exec = Jvm.exec) (hZ : Z.Warmed39 s.vm) {own C : String} {index : Nat} (hown : s.vm.findClass own = some m.cls) (w1 : (Cond.methodLink own index y).before a0 Z = true) (w2 : (Cond.declares y).before a0 Z = true) (w5 : (Cond.selects C y y).before a0 Z = true) (w6 : (Cond.instanceMethod y).before a0 Z = true) (w3 : (Cond.initialized y.cls).before a0 Z = true) (w4 : (Cond.code y bytes maxL ret).before a0 Z = true)
    (hy : y.cls ≠ "java/lang/invoke/MethodHandle" ∧ y.cls ≠ "java/lang/invoke/VarHandle") (eT : T.heap = h) (O : Ow K Z h n0 D) (N : Fr n0 locs) {q : Nat} (hck : ck D a t = some q) (hK : (K t).1 = .object C) {as' : List Value} (hM : Ct K l Z y (.code y bytes maxL ret) rm n0 D (.ref (n0 + a) :: as').toArray r D') {W kc ks : Nat} (hkc : rm.cells = kc) (hks : rm.slots = ks) (hf : rm.frames + 1 ≤ R.frames) (hl : W + (maxL + 11) + rm.locals ≤ R.locals)
    {g : JFrame} (hg : g.method = m) (hsize : g.locals.size = c.maxLocals) {rest : List Value} (hlen : ∀ sig, parseMethodDescriptor y.desc = some sig → as'.length = sig.parameters.length) (hs : g.stack = as'.reverse ++ .ref (n0 + a) :: rest) (hW : 2 * g.monitorRoom + (rest.map fun v => v.category).sum ≤ W) (hd : decode c.code g.pc = .ok (.invokevirtual index, 3)) (hc : cells + kc ≤ R.cells) (hsl : slots + ks ≤ R.slots) :
    ∃ T' h' L, Stand p l e R s m args below meth c T' L (cells + kc) (slots + ks) ∧ T'.heap = h' ∧ h.size ≤ h'.size ∧ Ow K Z h' n0 D' ∧ Fr n0 L ∧ ∀ target, Steps p.tables e below (T'.setTop { g with pc := g.pc + 3, stack := r.toList ++ rest }) target → Steps p.tables e below (T.setTop g) target := by
  subst hkc hks
  obtain ⟨cq, kq, qa, qb, qc⟩ := isOf hZ eT (O.exaC hck hK)
  obtain ⟨_, _, ⟨T', L', k', n'⟩, -, X', ⟨Lc, hQ, hL, hk, hn⟩, st⟩ := X.virtualBack hx (y := y) (z := y) hown (mvT hZ w1) (mvT hZ w2) (notFace_of_selects (args := #[]) (mvT hZ w5)) (mvT hZ w5) (mvT hZ w6) hy (backOf (W := W) (hM h [] O) hZ w4 w3 hf hl) qa qc hg hsize (Steps.refl _) (argsL := as') hlen hs hW hd (fun _ _ => ⟨rfl, eT, hc, hsl⟩)
  dsimp only [Pt.U, Pt.locs, Pt.cells, Pt.slots] at X' hL hk hn st hQ
  subst hL hk hn
  obtain ⟨⟨rfl, N', O'⟩, hz⟩ := hQ
  exact ⟨T', _, _, X', rfl, hz, O', N.app N', fun target k => st.trans k⟩
theorem callPW (X : Stand p l e R s m args below meth c T locs cells slots) (hx : p.tables.exec = Jvm.exec) (hZ : Z.Warmed39 s.vm) {own C : String} {index nk : Nat} (hown : s.vm.findClass own = some m.cls) (w1 : (Cond.methodLink own index y).before a0 Z = true) (w2 : (Cond.privateMethod y).before a0 Z = true) (w5 : (Cond.instantiable y.cls nk).before a0 Z = true) (w6 : (Cond.instanceMethod y).before a0 Z = true) (w3 : (Cond.initialized y.cls).before a0 Z = true) (w4 : (Cond.code y bytes maxL ret).before a0 Z = true)
    (hy : y.cls ≠ "java/lang/invoke/MethodHandle" ∧ y.cls ≠ "java/lang/invoke/VarHandle") (eT : T.heap = h) (O : Ow K Z h n0 D) (N : Fr n0 locs) {q : Nat} (hck : ck D a t = some q) (hK : (K t).1 = .object C) {as' : List Value} (hM : Ct K l Z y (.code y bytes maxL ret) rm n0 D (.ref (n0 + a) :: as').toArray r D') {W kc ks : Nat} (hkc : rm.cells = kc) (hks : rm.slots = ks) (hf : rm.frames + 1 ≤ R.frames) (hl : W + (maxL + 11) + rm.locals ≤ R.locals)
    {g : JFrame} (hg : g.method = m) (hsize : g.locals.size = c.maxLocals) {rest : List Value} (hlen : ∀ sig, parseMethodDescriptor y.desc = some sig → as'.length = sig.parameters.length) (hs : g.stack = as'.reverse ++ .ref (n0 + a) :: rest) (hW : 2 * g.monitorRoom + (rest.map fun v => v.category).sum ≤ W) (hd : decode c.code g.pc = .ok (.invokevirtual index, 3)) (hc : cells + kc ≤ R.cells) (hsl : slots + ks ≤ R.slots) :
    ∃ T' h' L, Stand p l e R s m args below meth c T' L (cells + kc) (slots + ks) ∧ T'.heap = h' ∧ h.size ≤ h'.size ∧ Ow K Z h' n0 D' ∧ Fr n0 L ∧ ∀ target, Steps p.tables e below (T'.setTop { g with pc := g.pc + 3, stack := r.toList ++ rest }) target → Steps p.tables e below (T.setTop g) target := by
  subst hkc hks
  obtain ⟨cC, kC, i1, i2, -, i4, -, -⟩ := Cond.instantiable_spec (mvT (args := args) hZ w5)
  have hpr := Cond.privateMethod_at (mvP (args := args) hZ w2)
  have hsel := selects_self_of_private i1 i2 (Bool.or_eq_false_iff.mp i4).1 hpr (mvT (args := args) hZ w6) hy
  obtain ⟨cq, qa, qb⟩ := (O.exaC hck hK).cell
  obtain ⟨_, _, ⟨T', L', k', n'⟩, -, X', ⟨Lc, hQ, hL, hk, hn⟩, st⟩ := X.privateBack hx (y := y) hown (mvT hZ w1) (mvT hZ w6) hsel hpr (mvT hZ w4) hy (backOf (W := W) (hM h [] O) hZ w4 w3 hf hl) hg hsize (Steps.refl _) (by rw [eT]; exact qa) qb (argsL := as') hlen hs hW hd (fun _ _ => ⟨rfl, eT, hc, hsl⟩)
  dsimp only [Pt.U, Pt.locs, Pt.cells, Pt.slots] at X' hL hk hn st hQ
  subst hL hk hn
  obtain ⟨⟨rfl, N', O'⟩, hz⟩ := hQ
  exact ⟨T', _, _, X', rfl, hz, O', N.app N', fun target k => st.trans k⟩
theorem cloneW (X : Stand p l e R s m args below meth c T locs cells slots) (hx : p.tables.exec = Jvm.exec) (hZ : Z.Warmed39 s.vm) {own ad : String} {index : Nat} {ty : FieldType} (hown : s.vm.findClass own = some m.cls) (had : ad = "[" ++ ty.toString)
    (w1 : (Cond.methodLink own index ⟨ad, "clone", "()Ljava/lang/Object;"⟩).before a0 Z = true) (w2 : (Cond.sameMethod ad "java/lang/Object" "clone" "()Ljava/lang/Object;").before a0 Z = true) (w3 : (Cond.native ⟨"java/lang/Object", "clone", "()Ljava/lang/Object;"⟩).before a0 Z = true)
    (w4 : (Cond.instanceMethod ⟨"java/lang/Object", "clone", "()Ljava/lang/Object;"⟩).before a0 Z = true) (w5 : (Cond.selects ad ⟨ad, "clone", "()Ljava/lang/Object;"⟩ ⟨"java/lang/Object", "clone", "()Ljava/lang/Object;"⟩).before a0 Z = true) (w6 : (Cond.castable ad "java/lang/Cloneable").before a0 Z = true)
    (eT : T.heap = h) (O : Ow K Z h n0 D) {qm : Nat} (hnm : nm D = some qm) (hK : (K t).1 = .array ty) {cap : Nat} (hq : cA' D a t cap = some D') {g : JFrame} (hg : g.method = m) (hsize : g.locals.size = c.maxLocals) {rest : List Value} (hs : g.stack = .ref (n0 + a) :: rest) (hd : decode c.code g.pc = .ok (.invokevirtual index, 3))
    (hf : 1 ≤ R.frames) {W : Nat} (hW : 2 * g.monitorRoom + (rest.map fun v => v.category).sum ≤ W) (hl : W + 14 ≤ R.locals) (hc : cells + 1 ≤ R.cells) (hsl : slots + cap ≤ R.slots) :
    ∃ T' h', Stand p l e R s m args below meth c T' locs (cells + 1) (slots + cap) ∧ T'.heap = h' ∧ h.size ≤ h'.size ∧ Ow K Z h' n0 D' ∧ ∀ target, Steps p.tables e below (T'.setTop { g with pc := g.pc + 3, stack := .ref (n0 + D.length) :: rest }) target → Steps p.tables e below (T.setTop g) target := by
  obtain ⟨vs, h1, h2, rfl⟩ := cA_e hq
  obtain ⟨E, cl, A, hsl', hlen, hfit⟩ := (O.2 a t vs h1).1 ty hK
  rw [← had] at E
  obtain ⟨c2, k, e1, e2, e3, e4, e5⟩ := E
  cases A.1.symm.trans e1
  obtain ⟨c1, cC, g1, g2, g3⟩ := Cond.castable_spec w6
  cases e2.symm.trans g1
  have hal : Z.vm.Alike T.vm := hZ.alike.trans X.warmed.alike
  have hsz : cl.slots.size = vs.length := by rw [hsl', sh_len]
  have hfc : ∀ i v, cl.slots[i]? = some v → Z.fitsSlot cl.cls .none i v = true := fun i v hv => by
    obtain ⟨-, k2, hk2, comp, hkind⟩ := A.2.1
    have e : Z.slotType? cl.cls .none i = some ty := by simp [State.slotType?, hk2, hkind]
    have hv' : ∃ w ∈ vs, sh n0 w = v := by
      rw [hsl'] at hv
      have hm : v ∈ vs.map (sh n0) := by
        have := Array.mem_of_getElem? hv
        simpa using this
      exact List.mem_map.mp hm
    obtain ⟨w, hw, rfl⟩ := hv'
    have hfw : fits ty (sh n0 w) = true := by
      have := hfit w hw
      cases w <;> first | exact this | (cases ty <;> first | (cases this; done) | rfl)
    simpa [State.fitsSlot, e] using hfw
  obtain ⟨vm', X', st⟩ := X.cloneArray hx hown (mv hZ w1) (mv hZ w2) (mv hZ w3) (mv hZ w4) (mv hZ w5) (a := n0 + a) (by rw [eT]; exact A.1) A.2.1.1 A.2.2 (by rw [hZ.alike.findClass]; exact e2) (by rw [hZ.alike.findClass]; exact g2) (by rw [hZ.alike.assignable]; exact g3)
    (fun i v hv => by have q := hfc i v hv; rw [← State.fitsSlot_setVm hal] at q; exact q) hg hsize hs hd hf (by omega) hc (by omega)
    (by obtain ⟨-, k2, hk2, comp, hkind⟩ := A.2.1; rw [hZ.alike.clonesLoader]; exact Vm.clonesLoader_of_array hk2 hkind)
  subst eT
  have hs0 := O.1 (nm_e hnm)
  refine ⟨_, _, X'.more (Nat.le_refl _) (by omega), rfl, by simp, O.push (h' := T.heap.push _) (nm_e hnm) ⟨by simp, fun a c h => ?_⟩ (by simp) ⟨fun ty' hK' => ?_, fun C hK' => by rw [hK] at hK'; cases hK'⟩, by rw [← hs0]; exact st⟩
  · rw [Array.getElem?_push_lt (Array.getElem?_eq_some_iff.mp h).1]; exact (Array.getElem?_eq_getElem _).symm.trans h
  · cases hK.symm.trans hK'
    rw [← hs0, ← had]
    exact ⟨⟨_, k, Array.getElem?_push_size, e2, e3, rfl, e5⟩, _, ⟨Array.getElem?_push_size, ⟨fun _ z => (by cases z), A.2.1.2⟩, fun z => (by cases z)⟩, hsl', hlen, hfit⟩
theorem castW (X : Stand p l e R s m args below meth c T locs cells slots) (hx : p.tables.exec = Jvm.exec) (hZ : Z.Warmed39 s.vm) {own ad : String} {index : Nat} {ty : FieldType} (hown : s.vm.findClass own = some m.cls) (w : (Cond.classLink own index ad).before a0 Z = true) (had : ad = "[" ++ ty.toString) (eT : T.heap = h) (O : Ow K Z h n0 D) {q : Nat} (hck : ck D a t = some q) (hK : (K t).1 = .array ty)
    {g : JFrame} (hg : g.method = m) {rest : List Value} (hs : g.stack = .ref (n0 + a) :: rest) (hd : decode c.code g.pc = .ok (.checkcast index, 3)) : ∃ T', Stand p l e R s m args below meth c T' locs cells slots ∧ T'.heap = h ∧ ∀ target, Steps p.tables e below (T'.setTop { g with pc := g.pc + 3 }) target → Steps p.tables e below (T.setTop g) target := by
  obtain ⟨vs, h1⟩ := ck_e hck
  obtain ⟨E, -⟩ := (O.2 a t vs h1).1 ty hK
  rw [← had] at E
  exact castY X hx hZ hown w eT (Ins.self E) hg hs hd
theorem cloneU (X : Stand p l e R s m args below meth c T locs cells slots) (hx : p.tables.exec = Jvm.exec) (hZ : Z.Warmed39 s.vm) {own ad : String} {index : Nat} {ty : FieldType} (hown : s.vm.findClass own = some m.cls) (had : ad = "[" ++ ty.toString)
    (w1 : (Cond.methodLink own index ⟨ad, "clone", "()Ljava/lang/Object;"⟩).before a0 Z = true) (w2 : (Cond.sameMethod ad "java/lang/Object" "clone" "()Ljava/lang/Object;").before a0 Z = true) (w3 : (Cond.native ⟨"java/lang/Object", "clone", "()Ljava/lang/Object;"⟩).before a0 Z = true)
    (w4 : (Cond.instanceMethod ⟨"java/lang/Object", "clone", "()Ljava/lang/Object;"⟩).before a0 Z = true) (w5 : (Cond.selects ad ⟨ad, "clone", "()Ljava/lang/Object;"⟩ ⟨"java/lang/Object", "clone", "()Ljava/lang/Object;"⟩).before a0 Z = true) (w6 : (Cond.castable ad "java/lang/Cloneable").before a0 Z = true)
    (eT : T.heap = h) (O : Ow K Z h n0 D) (h98 : (K 98).1 = .int) (hK : (K t).1 = .array ty) {cap qq : Nat} (hq : cL D a t cap = some qq) {g : JFrame} (hg : g.method = m) (hsize : g.locals.size = c.maxLocals) {rest : List Value} (hs : g.stack = .ref (n0 + a) :: rest) (hd : decode c.code g.pc = .ok (.invokevirtual index, 3))
    (hf : 1 ≤ R.frames) {W : Nat} (hW : 2 * g.monitorRoom + (rest.map fun v => v.category).sum ≤ W) (hl : W + 14 ≤ R.locals) (hc : cells + 1 ≤ R.cells) (hsl : slots + cap ≤ R.slots) :
    ∃ T' h' sa, Stand p l e R s m args below meth c T' locs (cells + 1) (slots + cap) ∧ T'.heap = h' ∧ h.size ≤ h'.size ∧ Ow K Z h' n0 (D ++ [(98, [])]) ∧ Exa Z h' sa ad ∧ ∀ target, Steps p.tables e below (T'.setTop { g with pc := g.pc + 3, stack := .ref sa :: rest }) target → Steps p.tables e below (T.setTop g) target := by
  obtain ⟨vs, h1, h2⟩ := cL_e hq
  obtain ⟨E, cl, A, hsl', hlen, hfit⟩ := (O.2 a t vs h1).1 ty hK
  rw [← had] at E
  obtain ⟨c2, k, e1, e2, e3, e4, e5⟩ := E
  cases A.1.symm.trans e1
  obtain ⟨c1, cC, g1, g2, g3⟩ := Cond.castable_spec w6
  cases e2.symm.trans g1
  have hal : Z.vm.Alike T.vm := hZ.alike.trans X.warmed.alike
  have hsz : cl.slots.size = vs.length := by rw [hsl', sh_len]
  have hfc : ∀ i v, cl.slots[i]? = some v → Z.fitsSlot cl.cls .none i v = true := fun i v hv => by
    obtain ⟨-, k2, hk2, comp, hkind⟩ := A.2.1
    have e : Z.slotType? cl.cls .none i = some ty := by simp [State.slotType?, hk2, hkind]
    have hv' : ∃ w ∈ vs, sh n0 w = v := by
      rw [hsl'] at hv
      have hm : v ∈ vs.map (sh n0) := by
        have := Array.mem_of_getElem? hv
        simpa using this
      exact List.mem_map.mp hm
    obtain ⟨w, hw, rfl⟩ := hv'
    have hfw : fits ty (sh n0 w) = true := by
      have := hfit w hw
      cases w <;> first | exact this | (cases ty <;> first | (cases this; done) | rfl)
    simpa [State.fitsSlot, e] using hfw
  obtain ⟨vm', X', st⟩ := X.cloneArray hx hown (mv hZ w1) (mv hZ w2) (mv hZ w3) (mv hZ w4) (mv hZ w5) (a := n0 + a) (by rw [eT]; exact A.1) A.2.1.1 A.2.2 (by rw [hZ.alike.findClass]; exact e2) (by rw [hZ.alike.findClass]; exact g2) (by rw [hZ.alike.assignable]; exact g3)
    (fun i v hv => by have q := hfc i v hv; rw [← State.fitsSlot_setVm hal] at q; exact q) hg hsize hs hd hf (by omega) hc (by omega)
    (by obtain ⟨-, k2, hk2, comp, hkind⟩ := A.2.1; rw [hZ.alike.clonesLoader]; exact Vm.clonesLoader_of_array hk2 hkind)
  subst eT
  have E0 : Ext T.heap (T.heap.push { cls := cl.cls, slots := cl.slots, vm := .none }) := ⟨by simp, fun a c h => by
    rw [Array.getElem?_push_lt (Array.getElem?_eq_some_iff.mp h).1]; exact (Array.getElem?_eq_getElem _).symm.trans h⟩
  exact ⟨_, T.heap.push { cls := cl.cls, slots := cl.slots, vm := .none }, T.heap.size, X'.more (Nat.le_refl _) (by omega), rfl, E0.1, O.mark E0 h98, ⟨_, k, Array.getElem?_push_size, e2, e3, rfl, e5⟩, st⟩
theorem putU (X : Stand p l e R s m args below meth c T locs cells slots) (hx : p.tables.exec = Jvm.exec) (hZ : Z.Warmed39 s.vm) {own C f d f1 d1 : String} {index kk : Nat} {ty : FieldType} (hown : s.vm.findClass own = some m.cls) (w : (Cond.fieldLink own index C f d).before a0 Z = true) (hL : Lay K Z a0)
    (eT : T.heap = h) (O : Ow K Z h n0 D) (N : Fr n0 locs) {q : Nat} (hck : ck D a t = some q) (hK : (K t).1 = .object C) (hf1 : (K t).2[0]? = some (f1, d1)) (hne : ∀ z ∈ (K t).2, z.1 ≠ f) (L : (Cond.lays C C f d).before a0 Z = true ∨ ((Cond.laysFinal C C f d).before a0 Z = true ∧ own = C ∧ meth.name = "<init>")) (wi : (Cond.instantiable C kk).before a0 Z = true)
    (hty : parseFieldDescriptor d = some ty) {v v' : Value} (hn : narrow ty v = v') (hfit : fits ty v' = true) {g : JFrame} (hgm : g.method = m) {rest : List Value} (hs : g.stack = v :: .ref (n0 + a) :: rest) (hd : decode c.code g.pc = .ok (.putfield index, 3)) :
    ∃ T' h' L, Stand p l e R s m args below meth c T' L cells slots ∧ T'.heap = h' ∧ h.size ≤ h'.size ∧ Ow K Z h' n0 D ∧ Fr n0 L ∧ ∀ target, Steps p.tables e below (T'.setTop { g with pc := g.pc + 3, stack := rest }) target → Steps p.tables e below (T.setTop g) target := by
  obtain ⟨vs, hD⟩ := ck_e hck
  have E := O.exa hD hK
  obtain ⟨w1, -, F1⟩ := ((O.2 a t vs hD).2 C hK).2 0 f1 d1 hf1
  have N1 : ∃ cell : Cell, h[n0 + a]? = some cell ∧ cell.vm ≠ .unknown := by
    obtain ⟨cell, _, _, _, _, q1, _, _, q4, _⟩ := F1
    exact ⟨cell, q1, q4⟩
  have Lf : Laid Z a0 C C f d := L.imp id (·.1)
  obtain ⟨old, F⟩ := fld_laid E N1 wi Lf
  obtain ⟨T', h', X', e', W, st⟩ := putFN X hx hZ hown w Via.refl eT F E L wi hty hn hfit hgm hs hd
  exact ⟨T', h', _, X', e', Nat.le_of_eq W.size.symm, O.putU hL hD hK hne Lf hty W, Fr.snoc X' N (Nat.le_add_right _ _), st⟩
/-! 5. the wide part: a body that may intern -/
def GlW (p : Program) (e : Env) (below : List Frame) (s : State) (kc ks : Nat) (P : Option Value → Heap → List Loc → Prop) (S : State) : Prop :=
  ∃ t o, Steps p.tables e below S t ∧ t.status = .running ∧ Ended t below o ∧ ∃ v L, o = .returned v ∧ P v t.heap L ∧ ReturnedEndW s o t L kc ks
theorem GlW.on {kc ks : Nat} {P : Option Value → Heap → List Loc → Prop} {A B : State} (h : ∀ t, Steps p.tables e below B t → Steps p.tables e below A t) (k : GlW p e below s kc ks P B) : GlW p e below s kc ks P A := by
  obtain ⟨t, o, h1, h2⟩ := k
  exact ⟨t, o, h t h1, h2⟩
theorem own_up {s t : State} {o : Outcome} {L : List Loc} {k n k' n' : Nat} (h : ReturnedEndW s o t L k n) (hk : k ≤ k') (hn : n ≤ n') : ReturnedEndW s o t L k' n' := ⟨h.1, h.2.1, h.2.2.1, h.2.2.2.mono hk hn⟩
theorem GlW.outN {vm0 : Vm} {k0 kc ks : Nat} {P : Option Value → Heap → List Loc → Prop} (X : Stand p l e R (s.setVm vm0) m args below meth c T locs cells slots) (hS : s.Since vm0 k0) (hk : k0 ≤ T.heap.size) (hx : p.tables.exec = Jvm.exec) (hlk : meth.locks = false) {pc : Nat} {Ls : Array Slot} {z : Int32} {t : FieldType} {rest : List Value} (hret : meth.sig.returnType = some t) (ht : t = .boolean ∨ t = .byte ∨ t = .char ∨ t = .short)
    (hd : decode c.code pc = .ok (.ireturn, 1)) (hP : P (some (.int (nar t z))) T.heap locs) (hc : cells ≤ kc) (hs : slots ≤ ks) : GlW p e below s kc ks P (T.setTop (mkF m pc Ls (.int z :: rest))) := by
  obtain ⟨fs, hr, hrun, hended, hE⟩ := X.leaveW hS hk (v := some (.int (nar t z))) (fun h => by rw [hret] at h; cases h) hlk
  exact ⟨_, _, retN X hx hret ht hd hr, hrun, hended, _, _, rfl, hP, own_up hE hc hs⟩
theorem GlW.outV {vm0 : Vm} {k0 kc ks : Nat} {P : Option Value → Heap → List Loc → Prop} (X : Stand p l e R (s.setVm vm0) m args below meth c T locs cells slots) (hS : s.Since vm0 k0) (hk : k0 ≤ T.heap.size) (hx : p.tables.exec = Jvm.exec) (hlk : meth.locks = false) {pc : Nat} {Ls : Array Slot} (hret : meth.sig.returnType = none)
    (hd : decode c.code pc = .ok (.return_, 1)) (hP : P none T.heap locs) (hc : cells ≤ kc) (hs : slots ≤ ks) : GlW p e below s kc ks P (T.setTop (mkF m pc Ls [])) := by
  obtain ⟨fs, hr, hrun, hended, hE⟩ := X.leaveW hS hk (v := none) (fun _ => rfl) hlk
  exact ⟨_, _, X.returnOut hx hret hd hr, hrun, hended, _, _, rfl, hP, own_up hE hc hs⟩
def CtW (K : Kt) (l : Launch) (Z : State) (y : MethodName) (cw : Jvm.Cond) (rm : Room) (n0 : Nat) (D : Hp) (as' : Array Value) (r : Option Value) (D' : Hp) : Prop :=
  ∀ (h0 : Heap) (ws : List Jvm.Cond), Ow K Z h0 n0 D → MetFree l y (head1 (cw :: ws) rm) (fun a U => a = as' ∧ Z.Warmed39 U.vm ∧ U.heap = h0) (fun _ _ _ _ _ => True) (fun _ U o U' => ∃ v L, o = .returned v ∧ Qw K Z n0 r D' v U'.heap L ∧ ReturnedEndW U o U' L rm.cells rm.slots)
theorem CtW.of {as' : Array Value} (hpl : plainFor y = true) (body : ∀ (p : Program) (e : Env) (s : State) (m : MethodId) (below : List Frame) (meth : Method) (c : Code) (s₁ : State) (h0 : Heap), Cx p (s.setVm s.vm) m meth c Z bytes maxL ret y.cls y.name → Stand p l e rm (s.setVm s.vm) m as' below meth c s₁ [] 0 0 → s₁.heap = h0 → Ow K Z h0 n0 D → s.Since s.vm 0 →
      GlW p e below s rm.cells rm.slots (Qw K Z n0 r D') (s₁.setTop (entryFrame m as' maxL))) : CtW K l Z y (.code y bytes maxL ret) rm n0 D as' r D' := by
  intro h0 ws O
  refine MetFree.of_bodySF hpl hisR ?_
  intro p e s m args below meth c s₁ Bd hml0 hP hK
  obtain ⟨rfl, hZ, hh⟩ := hP
  exact body p e s m below meth c s₁ h0 ⟨Bd.exec, hZ, Bd.bytes, hml0, findClass_of_methodNamed Bd.named, (name_of_methodNamed Bd.named Bd.method).1, Bd.returns, BodyLoose.notSynchronized Bd⟩ (Stand.of_body Bd) (by rw [← hh, Bd.state]; rfl) O ((State.WarmedH.refl s).since 0)
theorem ldcW {vm0 : Vm} {k0 : Nat} (X : Stand p l e R (s.setVm vm0) m args below meth c T locs cells slots) (hx : p.tables.exec = Jvm.exec) (hZ : Z.Warmed39 (s.setVm vm0).vm) {own text : String} {index : Nat} (hown : (s.setVm vm0).vm.findClass own = some m.cls) (w : (Cond.stringLink own index text).before a0 Z = true) (wS : ∀ a ∈ Bundle.stringAtoms, a.before a0 Z = true)
    (eT : T.heap = h) (O : Ow K Z h n0 D) (h98 : (K 98).1 = .int) (hS : s.Since vm0 k0) (hk : k0 ≤ h.size) {g : JFrame} (hg : g.method = m) (hd : decode c.code g.pc = .ok (.ldc index, 2)) {n : Nat} (hn : 4 * text.toList.length ≤ n) (hbig : n ≤ 536870912) (hc : cells + 2 ≤ R.cells) (hl : slots + (n + 4) ≤ R.slots) :
    ∃ (sa : Addr) (T' : State) (h' : Heap) (k1 : Nat), Stand p l e R (s.setVm T'.vm) m args below meth c T' locs (cells + 2) (slots + (n + 4)) ∧ T'.heap = h' ∧ Ow K Z h' n0 (D ++ [(98, [])]) ∧ s.Since T'.vm k1 ∧ k1 ≤ h'.size ∧ Z.Warmed39 (s.setVm T'.vm).vm ∧ (s.setVm T'.vm).vm.findClass own = some m.cls ∧
      ∀ target, Steps p.tables e below (T'.setTop { g with pc := g.pc + 2, stack := .ref sa :: g.stack }) target → Steps p.tables e below (T.setTop g) target := by
  obtain ⟨sa, T', h', k1, X', e', E, hS', hk', hZ', hown', st⟩ := ldcS X hx hZ hown w wS eT hS hk hg hd hn hbig hc hl
  exact ⟨sa, T', h', k1, X', e', O.mark E h98, hS', hk', hZ', hown', st⟩
theorem callIWS {vm0 : Vm} {k0 : Nat} (X : Stand p l e R (s.setVm vm0) m args below meth c T locs cells slots) (hx : p.tables.exec = Jvm.exec) (hZ : Z.Warmed39 (s.setVm vm0).vm) {own : String} {index : Nat} (hy1 : y.name = "<init>") (hown : (s.setVm vm0).vm.findClass own = some m.cls) (w1 : (Cond.methodLink own index y).before a0 Z = true) (w2 : (Cond.instanceMethod y).before a0 Z = true) (w3 : (Cond.initialized y.cls).before a0 Z = true) (w4 : (Cond.code y bytes maxL none).before a0 Z = true)
    (hy : y.cls ≠ "java/lang/invoke/MethodHandle" ∧ y.cls ≠ "java/lang/invoke/VarHandle") (eT : T.heap = h) (O : Ow K Z h n0 D) (N : Fr n0 locs) (hS : s.Since vm0 k0) (hk : k0 ≤ h.size) {as' : List Value} (hM : CtW K l Z y (.code y bytes maxL none) rm n0 D (.ref (n0 + a) :: as').toArray r D') {W kc ks : Nat} (hkc : rm.cells = kc) (hks : rm.slots = ks) (hf : rm.frames + 1 ≤ R.frames) (hl : W + (maxL + 11) + rm.locals ≤ R.locals)
    {g : JFrame} (hg : g.method = m) (hsize : g.locals.size = c.maxLocals) {rest : List Value} (hlen : ∀ sig, parseMethodDescriptor y.desc = some sig → as'.length = sig.parameters.length) (hs : g.stack = as'.reverse ++ .ref (n0 + a) :: rest) (hW : 2 * g.monitorRoom + (rest.map fun v => v.category).sum ≤ W) (hd : decode c.code g.pc = .ok (.invokespecial index, 3)) (hc : cells + kc ≤ R.cells) (hsl : slots + ks ≤ R.slots) :
    ∃ T' h' L k1, Stand p l e R (s.setVm T'.vm) m args below meth c T' L (cells + kc) (slots + ks) ∧ T'.heap = h' ∧ Ow K Z h' n0 D' ∧ Fr n0 L ∧ s.Since T'.vm k1 ∧ k1 ≤ h'.size ∧ Z.Warmed39 (s.setVm T'.vm).vm ∧ (s.setVm T'.vm).vm.findClass own = some m.cls ∧ ∀ target, Steps p.tables e below (T'.setTop { g with pc := g.pc + 3, stack := r.toList ++ rest }) target → Steps p.tables e below (T.setTop g) target := by
  subst hkc hks
  obtain ⟨_, _, ⟨T', L', k', n'⟩, -, X', hS2, hg2, ⟨Lc, hQ, hL, hk', hn⟩, st⟩ := X.specialBackS hx hy1 hown (mvT hZ w1) (mvT hZ w2) (mvT hZ w4) hy (backOfS (W := W) (hM h [] O) hZ w4 w3 hf hl) hg hsize (Steps.refl _) (argsL := as') hlen hs hW hd (fun _ _ => ⟨rfl, eT, hc, hsl⟩)
  dsimp only [Pt.U, Pt.locs, Pt.cells, Pt.slots] at X' hS2 hg2 hL hk' hn st hQ
  subst hL hk' hn
  obtain ⟨rfl, N', O'⟩ := hQ
  exact ⟨T', _, _, _, X', rfl, O', N.app N', foldS hS (by rw [eT]; exact hk) hS2 hg2, Nat.le_refl _, State.Warmed39.trans (t := s.setVm vm0) hZ hS2.1, by rw [show (s.setVm T'.vm).vm = T'.vm from rfl, hS2.1.alike.findClass]; exact hown, fun target k => st.trans k⟩
end OwnLaws
def Kt1 : Kt := fun k => match k with
  | 0 => ((.array .byte), [])
  | 1 => ((.object "com/example/eidwerk/eidwerk/card/CommandApdu"), [("cla", "I"), ("ins", "I"), ("p1", "I"), ("p2", "I"), ("ne", "I")])
  | _ => (.int, [])
theorem lay1 {Z : State} {a0 : Array Value} (hw : ∀ d ∈ tables_1, d.before a0 Z = true) : Lay Kt1 Z a0 := by
  intro t C hC
  match t, hC with
  | 0, hC => cases hC
  | 1, hC =>
    cases hC
    refine ⟨fun q hq => ?_, by decide⟩
    have hq' : q ∈ [(("cla", "I") : String × String), (("ins", "I") : String × String), (("p1", "I") : String × String), (("p2", "I") : String × String), (("ne", "I") : String × String)] := hq
    simp only [List.mem_cons, List.not_mem_nil, or_false] at hq'
    rcases hq' with rfl | rfl | rfl | rfl | rfl
    · exact ⟨Or.inr (hw _ (List.mem_of_getElem? (i := 31) rfl)), _, (by decide : parseFieldDescriptor _ = some .int)⟩
    · exact ⟨Or.inr (hw _ (List.mem_of_getElem? (i := 33) rfl)), _, (by decide : parseFieldDescriptor _ = some .int)⟩
    · exact ⟨Or.inr (hw _ (List.mem_of_getElem? (i := 35) rfl)), _, (by decide : parseFieldDescriptor _ = some .int)⟩
    · exact ⟨Or.inr (hw _ (List.mem_of_getElem? (i := 37) rfl)), _, (by decide : parseFieldDescriptor _ = some .int)⟩
    · exact ⟨Or.inr (hw _ (List.mem_of_getElem? (i := 50) rfl)), _, (by decide : parseFieldDescriptor _ = some .int)⟩
  | n + 2, hC => cases hC
theorem own_strs : ∀ d ∈ Bundle.stringAtoms, d ∈ tables_1 := by
  intro d hd
  simp only [Bundle.stringAtoms, List.mem_cons, List.not_mem_nil, or_false] at hd
  rcases hd with rfl | rfl | rfl | rfl | rfl | rfl | rfl
  all_goals first | exact List.mem_of_getElem? (i := 2) rfl | exact List.mem_of_getElem? (i := 16) rfl | exact List.mem_of_getElem? (i := 17) rfl | exact List.mem_of_getElem? (i := 18) rfl | exact List.mem_of_getElem? (i := 19) rfl | exact List.mem_of_getElem? (i := 20) rfl | exact List.mem_of_getElem? (i := 21) rfl
theorem d4_0 : decode prog_16_method_18_code 0 = .ok (.iload_n 0, 1) := by decide +kernel
theorem d4_1 : decode prog_16_method_18_code 1 = .ok (.ifCond .lt 10, 3) := by decide +kernel
theorem d4_4 : decode prog_16_method_18_code 4 = .ok (.iload_n 0, 1) := by decide +kernel
theorem d4_5 : decode prog_16_method_18_code 5 = .ok (.sipush 255, 3) := by decide +kernel
theorem d4_8 : decode prog_16_method_18_code 8 = .ok (.if_icmp .le 18, 3) := by decide +kernel
theorem d4_26 : decode prog_16_method_18_code 26 = .ok (.return_, 1) := by decide +kernel
theorem pn_4 : plainName "com/example/eidwerk/eidwerk/card/CommandApdu" = true := by first | (simp [plainName, overriddenIn]; done) | decide +kernel
def f4 (D : Hp) (i0 : Int32) : Option (Hp) :=
  if i0 < (0 : Int32) then (none) else (if (255 : Int32) < i0 then (none) else (some D))
theorem ef_4 (m : MethodId) (i0 : Int32) (sa1 : Nat) : entryFrame m #[(.int i0), (.ref sa1)] 2 = mkF m 0 #[.val (.int i0), .val (.ref sa1)] [] := by first | (simp [entryFrame, mkF, argsToLocals, Value.category]; done) | rfl
set_option maxRecDepth 65536 in
set_option maxHeartbeats 40000000 in
theorem ct4 {l : Launch} {Z : State} {a0 : Array Value} (hw : ∀ d ∈ tables_1, d.before a0 Z = true) {n0 : Nat} {D D' : Hp} {i0 : Int32} {sa1 : Nat} (hf : f4 D i0 = some D') :
    Ct Kt1 l Z (⟨"com/example/eidwerk/eidwerk/card/CommandApdu", "requireByte", "(ILjava/lang/String;)V"⟩ : MethodName) (.code (⟨"com/example/eidwerk/eidwerk/card/CommandApdu", "requireByte", "(ILjava/lang/String;)V"⟩ : MethodName) prog_16_method_18_code 2 none) ({ frames := 0, cells := 0, slots := 0, locals := 0 } : Room) n0 D #[(.int i0), (.ref sa1)] none D' := by
  refine Ct.of (plainFor_of_name pn_4) ?_
  intro p e s m below meth c T0 h0 hC X0 e0 O0
  obtain ⟨hx, hZ, hby, hml, hown, hnm, hret, hlk⟩ := id hC
  have hml : c.maxLocals = 2 := hml
  have hown : s.vm.findClass "com/example/eidwerk/eidwerk/card/CommandApdu" = some m.cls := hown
  have hnm : meth.name = "requireByte" := hnm
  have N0 := Fr.nil n0
  refine Gl.on (fun t k => castTop (ef_4 m i0 sa1) k) ?_
  rw [f4] at hf
  refine Gl.on (B := T0.setTop (mkF m 1 #[.val (.int i0), .val (.ref sa1)] [(.int i0)])) (fun t k => ?_) ?_
  · show Steps p.tables e below (T0.setTop (mkF m 0 #[.val (.int i0), .val (.ref sa1)] [])) _
    refine XS.iloadN X0.here hx rfl (hb hby d4_0) rfl ?_
    exact k
  by_cases hc1 : i0 < (0 : Int32)
  · rw [if_pos hc1] at hf
    cases hf
  · rw [if_neg hc1] at hf
    refine Gl.on (B := T0.setTop (mkF m 8 #[.val (.int i0), .val (.ref sa1)] [(.int (255 : Int32)), (.int i0)])) (fun t k => ?_) ?_
    · show Steps p.tables e below (T0.setTop (mkF m 1 #[.val (.int i0), .val (.ref sa1)] [(.int i0)])) _
      refine XS.ifNo X0.here hx rfl (hb hby d4_1) rfl ((if0 _ _).trans (flt hc1).1) ?_
      show Steps p.tables e below (T0.setTop (mkF m 4 #[.val (.int i0), .val (.ref sa1)] [])) _
      refine XS.iloadN X0.here hx rfl (hb hby d4_4) rfl ?_
      show Steps p.tables e below (T0.setTop (mkF m 5 #[.val (.int i0), .val (.ref sa1)] [(.int i0)])) _
      refine XS.sipush X0.here hx rfl (hb hby d4_5) ?_
      exact k
    by_cases hc2 : (255 : Int32) < i0
    · rw [if_pos hc2] at hf
      cases hf
    · rw [if_neg hc2] at hf
      refine Gl.on (B := T0.setTop (mkF m 26 #[.val (.int i0), .val (.ref sa1)] [])) (fun t k => ?_) ?_
      · show Steps p.tables e below (T0.setTop (mkF m 8 #[.val (.int i0), .val (.ref sa1)] [(.int (255 : Int32)), (.int i0)])) _
        refine XS.icmpYes X0.here hx rfl (pc0 := 8) (pc' := 26) rfl (hb hby d4_8) rfl (flt hc2).2.2.2 (by decide) (by decide) ?_
        exact k
      obtain rfl := own_inj1 hf
      exact Gl.outV X0 hx hlk hret (hb hby d4_26) ⟨rfl, N0, by rw [e0]; exact O0⟩ (by show _ ≤ 0; omega) (by show _ ≤ 0; omega)
theorem pd_0 : parseMethodDescriptor "(ILjava/lang/String;)V" = some ⟨[.int, (.object "java/lang/String")], none⟩ := by decide +kernel
theorem d2_0 : decode prog_16_method_3_code 0 = .ok (.aload_n 0, 1) := by decide +kernel
theorem d2_1 : decode prog_16_method_3_code 1 = .ok (.invokespecial 10, 3) := by decide +kernel
theorem d2_4 : decode prog_16_method_3_code 4 = .ok (.iload_n 1, 1) := by decide +kernel
theorem d2_5 : decode prog_16_method_3_code 5 = .ok (.ldc 15, 2) := by decide +kernel
theorem d2_7 : decode prog_16_method_3_code 7 = .ok (.invokestatic 17, 3) := by decide +kernel
theorem d2_10 : decode prog_16_method_3_code 10 = .ok (.iload_n 2, 1) := by decide +kernel
theorem d2_11 : decode prog_16_method_3_code 11 = .ok (.ldc 21, 2) := by decide +kernel
theorem d2_13 : decode prog_16_method_3_code 13 = .ok (.invokestatic 17, 3) := by decide +kernel
theorem d2_16 : decode prog_16_method_3_code 16 = .ok (.iload_n 3, 1) := by decide +kernel
theorem d2_17 : decode prog_16_method_3_code 17 = .ok (.ldc 23, 2) := by decide +kernel
theorem d2_19 : decode prog_16_method_3_code 19 = .ok (.invokestatic 17, 3) := by decide +kernel
theorem d2_22 : decode prog_16_method_3_code 22 = .ok (.iload 4, 2) := by decide +kernel
theorem d2_24 : decode prog_16_method_3_code 24 = .ok (.ldc 25, 2) := by decide +kernel
theorem d2_26 : decode prog_16_method_3_code 26 = .ok (.invokestatic 17, 3) := by decide +kernel
theorem d2_29 : decode prog_16_method_3_code 29 = .ok (.aload 5, 2) := by decide +kernel
theorem d2_31 : decode prog_16_method_3_code 31 = .ok (.arraylength, 1) := by decide +kernel
theorem d2_32 : decode prog_16_method_3_code 32 = .ok (.ldc 27, 2) := by decide +kernel
theorem d2_34 : decode prog_16_method_3_code 34 = .ok (.if_icmp .le 19, 3) := by decide +kernel
theorem d2_53 : decode prog_16_method_3_code 53 = .ok (.iload 6, 2) := by decide +kernel
theorem d2_55 : decode prog_16_method_3_code 55 = .ok (.ifCond .lt 10, 3) := by decide +kernel
theorem d2_58 : decode prog_16_method_3_code 58 = .ok (.iload 6, 2) := by decide +kernel
theorem d2_60 : decode prog_16_method_3_code 60 = .ok (.ldc 37, 2) := by decide +kernel
theorem d2_62 : decode prog_16_method_3_code 62 = .ok (.if_icmp .le 18, 3) := by decide +kernel
theorem d2_80 : decode prog_16_method_3_code 80 = .ok (.aload_n 0, 1) := by decide +kernel
theorem d2_81 : decode prog_16_method_3_code 81 = .ok (.iload_n 1, 1) := by decide +kernel
theorem d2_82 : decode prog_16_method_3_code 82 = .ok (.putfield 39, 3) := by decide +kernel
theorem d2_85 : decode prog_16_method_3_code 85 = .ok (.aload_n 0, 1) := by decide +kernel
theorem d2_86 : decode prog_16_method_3_code 86 = .ok (.iload_n 2, 1) := by decide +kernel
theorem d2_87 : decode prog_16_method_3_code 87 = .ok (.putfield 43, 3) := by decide +kernel
theorem d2_90 : decode prog_16_method_3_code 90 = .ok (.aload_n 0, 1) := by decide +kernel
theorem d2_91 : decode prog_16_method_3_code 91 = .ok (.iload_n 3, 1) := by decide +kernel
theorem d2_92 : decode prog_16_method_3_code 92 = .ok (.putfield 46, 3) := by decide +kernel
theorem d2_95 : decode prog_16_method_3_code 95 = .ok (.aload_n 0, 1) := by decide +kernel
theorem d2_96 : decode prog_16_method_3_code 96 = .ok (.iload 4, 2) := by decide +kernel
theorem d2_98 : decode prog_16_method_3_code 98 = .ok (.putfield 49, 3) := by decide +kernel
theorem d2_101 : decode prog_16_method_3_code 101 = .ok (.aload_n 0, 1) := by decide +kernel
theorem d2_102 : decode prog_16_method_3_code 102 = .ok (.aload 5, 2) := by decide +kernel
theorem d2_104 : decode prog_16_method_3_code 104 = .ok (.invokevirtual 52, 3) := by decide +kernel
theorem d2_107 : decode prog_16_method_3_code 107 = .ok (.checkcast 53, 3) := by decide +kernel
theorem d2_110 : decode prog_16_method_3_code 110 = .ok (.putfield 58, 3) := by decide +kernel
theorem d2_113 : decode prog_16_method_3_code 113 = .ok (.aload_n 0, 1) := by decide +kernel
theorem d2_114 : decode prog_16_method_3_code 114 = .ok (.iload 6, 2) := by decide +kernel
theorem d2_116 : decode prog_16_method_3_code 116 = .ok (.putfield 61, 3) := by decide +kernel
theorem d2_119 : decode prog_16_method_3_code 119 = .ok (.aload_n 0, 1) := by decide +kernel
theorem d2_120 : decode prog_16_method_3_code 120 = .ok (.iload 7, 2) := by decide +kernel
theorem d2_122 : decode prog_16_method_3_code 122 = .ok (.putfield 64, 3) := by decide +kernel
theorem d2_125 : decode prog_16_method_3_code 125 = .ok (.return_, 1) := by decide +kernel
theorem pn_2 : plainName "com/example/eidwerk/eidwerk/card/CommandApdu" = true := by first | (simp [plainName, overriddenIn]; done) | decide +kernel
def f2 (D : Hp) (ob0 : Nat) (i1 : Int32) (i2 : Int32) (i3 : Int32) (i4 : Int32) (ob5 : Nat) (i6 : Int32) (i7 : Int32) : Option (Hp) :=
  own_let (D ++ [(98, [])]) fun D2 =>
  (f4 D2 i1).bind fun D3 =>
  own_let (D3 ++ [(98, [])]) fun D4 =>
  (f4 D4 i2).bind fun D5 =>
  own_let (D5 ++ [(98, [])]) fun D6 =>
  (f4 D6 i3).bind fun D7 =>
  own_let (D7 ++ [(98, [])]) fun D8 =>
  (f4 D8 i4).bind fun D9 =>
  (lA D9 ob5 0).bind fun x10 =>
  if (65535 : Int32) < x10 then (none) else (if i6 < (0 : Int32) then (none) else (if (65536 : Int32) < i6 then (none) else ((pV D9 ob0 1 0 (.int i1)).bind fun D14 =>
  (pV D14 ob0 1 1 (.int i2)).bind fun D15 =>
  (pV D15 ob0 1 2 (.int i3)).bind fun D16 =>
  (pV D16 ob0 1 3 (.int i4)).bind fun D17 =>
  (cL D17 ob5 0 8).bind fun u19 => own_let (D17 ++ [(98, [])]) fun D18 =>
  (ck D18 ob0 1).bind fun u23 => (pV D18 ob0 1 4 (.int i6)).bind fun D24 =>
  (ck D24 ob0 1).bind fun u26 => some D24)))
theorem ef_2 (m : MethodId) (n0 : Nat) (ob0 : Nat) (i1 : Int32) (i2 : Int32) (i3 : Int32) (i4 : Int32) (ob5 : Nat) (i6 : Int32) (i7 : Int32) : entryFrame m #[(.ref (n0 + ob0)), (.int i1), (.int i2), (.int i3), (.int i4), (.ref (n0 + ob5)), (.int i6), (.int i7)] 8 = mkF m 0 #[.val (.ref (n0 + ob0)), .val (.int i1), .val (.int i2), .val (.int i3), .val (.int i4), .val (.ref (n0 + ob5)), .val (.int i6), .val (.int i7)] [] := by first | (simp [entryFrame, mkF, argsToLocals, Value.category]; done) | rfl
set_option maxRecDepth 65536 in
set_option maxHeartbeats 40000000 in
theorem ct2 {l : Launch} {Z : State} {a0 : Array Value} (hw : ∀ d ∈ tables_1, d.before a0 Z = true) {n0 : Nat} {D D' : Hp} {ob0 : Nat} {i1 : Int32} {i2 : Int32} {i3 : Int32} {i4 : Int32} {ob5 : Nat} {i6 : Int32} {i7 : Int32} (hf : f2 D ob0 i1 i2 i3 i4 ob5 i6 i7 = some D') :
    CtW Kt1 l Z (⟨"com/example/eidwerk/eidwerk/card/CommandApdu", "<init>", "(IIII[BIZ)V"⟩ : MethodName) (.code (⟨"com/example/eidwerk/eidwerk/card/CommandApdu", "<init>", "(IIII[BIZ)V"⟩ : MethodName) prog_16_method_3_code 8 none) ({ frames := 1, cells := 9, slots := 64, locals := 15 } : Room) n0 D #[(.ref (n0 + ob0)), (.int i1), (.int i2), (.int i3), (.int i4), (.ref (n0 + ob5)), (.int i6), (.int i7)] none D' := by
  refine CtW.of (plainFor_of_name pn_2) ?_
  intro p e s m below meth c T0 h0 hC X0 e0 O0 hS
  have hk : 0 ≤ h0.size := Nat.zero_le _
  obtain ⟨hx, hZ, hby, hml, hown, hnm, hret, hlk⟩ := id hC
  have hml : c.maxLocals = 8 := hml
  have hown : (s.setVm s.vm).vm.findClass "com/example/eidwerk/eidwerk/card/CommandApdu" = some m.cls := hown
  have hnm : meth.name = "<init>" := hnm
  have N0 := Fr.nil n0
  refine GlW.on (fun t k => castTop (ef_2 m n0 ob0 i1 i2 i3 i4 ob5 i6 i7) k) ?_
  rw [f2] at hf
  obtain ⟨T1, X1, e1, st1⟩ := initO X0 hx hZ hown (hw _ (List.mem_of_getElem? (i := 12) rfl)) (hw _ (List.mem_of_getElem? (i := 13) rfl)) (hw _ (List.mem_of_getElem? (i := 14) rfl)) e0 (g := (mkF m 1 #[.val (.ref (n0 + ob0)), .val (.int i1), .val (.int i2), .val (.int i3), .val (.int i4), .val (.ref (n0 + ob5)), .val (.int i6), .val (.int i7)] [(.ref (n0 + ob0))])) rfl (by rw [hml]; rfl) rfl (hb hby d2_1) (by decide) (W := 0) (by show 2 * 0 + _ ≤ _; exact Nat.le_of_eq rfl) (by decide)
  refine GlW.on (B := T1.setTop (mkF m 5 #[.val (.ref (n0 + ob0)), .val (.int i1), .val (.int i2), .val (.int i3), .val (.int i4), .val (.ref (n0 + ob5)), .val (.int i6), .val (.int i7)] [(.int i1)])) (fun t k => ?_) ?_
  · show Steps p.tables e below (T0.setTop (mkF m 0 #[.val (.ref (n0 + ob0)), .val (.int i1), .val (.int i2), .val (.int i3), .val (.int i4), .val (.ref (n0 + ob5)), .val (.int i6), .val (.int i7)] [])) _
    refine XS.aloadN X0.here hx rfl (hb hby d2_0) rfl rfl ?_
    show Steps p.tables e below (T0.setTop (mkF m 1 #[.val (.ref (n0 + ob0)), .val (.int i1), .val (.int i2), .val (.int i3), .val (.int i4), .val (.ref (n0 + ob5)), .val (.int i6), .val (.int i7)] [(.ref (n0 + ob0))])) _
    refine st1 _ ?_
    show Steps p.tables e below (T1.setTop (mkF m 4 #[.val (.ref (n0 + ob0)), .val (.int i1), .val (.int i2), .val (.int i3), .val (.int i4), .val (.ref (n0 + ob5)), .val (.int i6), .val (.int i7)] [])) _
    refine XS.iloadN X1.here hx rfl (hb hby d2_4) rfl ?_
    exact k
  obtain ⟨D2, hD2, hf⟩ := own_letE hf
  obtain ⟨sa2, T2, h2, k2, X2, e2, O2, hS, hk2, hZ, hown, st2⟩ := ldcW X1 hx hZ hown (hw _ (List.mem_of_getElem? (i := 15) rfl)) (fun d hd => hw d (own_strs d hd)) e1 O0 rfl hS hk (g := (mkF m 5 #[.val (.ref (n0 + ob0)), .val (.int i1), .val (.int i2), .val (.int i3), .val (.int i4), .val (.ref (n0 + ob5)), .val (.int i6), .val (.int i7)] [(.int i1)])) rfl (hb hby d2_5) (n := 12) (by decide) (by decide) (by show _ + 2 ≤ 9; omega) (by show _ + (12 + 4) ≤ 64; omega)
  rw [hD2] at O2
  have hC := (⟨hx, hZ, hby, hml, hown, hnm, hret, hlk⟩ : Cx p (s.setVm T2.vm) m meth c Z prog_16_method_3_code 8 none "com/example/eidwerk/eidwerk/card/CommandApdu" "<init>")
  obtain ⟨D3, hq3, hf⟩ := own_bind hf
  obtain ⟨T3, h3, L3, X3, e3, z3, O3, N3, st3⟩ := callSW X2 hx hZ (y := (⟨"com/example/eidwerk/eidwerk/card/CommandApdu", "requireByte", "(ILjava/lang/String;)V"⟩ : MethodName)) hown (hw _ (List.mem_of_getElem? (i := 22) rfl)) (hw _ (List.mem_of_getElem? (i := 23) rfl)) (hw _ (List.mem_of_getElem? (i := 5) rfl)) (hw _ (List.mem_of_getElem? (i := 24) rfl)) (by decide) e2 O2 N0 (as' := [(.int i1), (.ref sa2)]) (ct4 hw hq3) (W := 0) (kc := 0) (ks := 0) rfl rfl (by decide) (by decide) (g := (mkF m 7 #[.val (.ref (n0 + ob0)), .val (.int i1), .val (.int i2), .val (.int i3), .val (.int i4), .val (.ref (n0 + ob5)), .val (.int i6), .val (.int i7)] [(.ref sa2), (.int i1)])) rfl (by rw [hml]; rfl) (rest := []) (lenOf pd_0 rfl) rfl (by show 2 * 0 + _ ≤ _; exact Nat.le_of_eq rfl) (hb hby d2_7) (by show _ + 0 ≤ 9; omega) (by show _ + 0 ≤ 64; omega)
  refine GlW.on (B := T3.setTop (mkF m 11 #[.val (.ref (n0 + ob0)), .val (.int i1), .val (.int i2), .val (.int i3), .val (.int i4), .val (.ref (n0 + ob5)), .val (.int i6), .val (.int i7)] [(.int i2)])) (fun t k => ?_) ?_
  · show Steps p.tables e below (T1.setTop (mkF m 5 #[.val (.ref (n0 + ob0)), .val (.int i1), .val (.int i2), .val (.int i3), .val (.int i4), .val (.ref (n0 + ob5)), .val (.int i6), .val (.int i7)] [(.int i1)])) _
    refine st2 _ ?_
    show Steps p.tables e below (T2.setTop (mkF m 7 #[.val (.ref (n0 + ob0)), .val (.int i1), .val (.int i2), .val (.int i3), .val (.int i4), .val (.ref (n0 + ob5)), .val (.int i6), .val (.int i7)] [(.ref sa2), (.int i1)])) _
    refine st3 _ ?_
    show Steps p.tables e below (T3.setTop (mkF m 10 #[.val (.ref (n0 + ob0)), .val (.int i1), .val (.int i2), .val (.int i3), .val (.int i4), .val (.ref (n0 + ob5)), .val (.int i6), .val (.int i7)] [])) _
    refine XS.iloadN X3.here hx rfl (hb hby d2_10) rfl ?_
    exact k
  obtain ⟨D4, hD4, hf⟩ := own_letE hf
  obtain ⟨sa4, T4, h4, k4, X4, e4, O4, hS, hk4, hZ, hown, st4⟩ := ldcW X3 hx hZ hown (hw _ (List.mem_of_getElem? (i := 25) rfl)) (fun d hd => hw d (own_strs d hd)) e3 O3 rfl hS (Nat.le_trans hk2 z3) (g := (mkF m 11 #[.val (.ref (n0 + ob0)), .val (.int i1), .val (.int i2), .val (.int i3), .val (.int i4), .val (.ref (n0 + ob5)), .val (.int i6), .val (.int i7)] [(.int i2)])) rfl (hb hby d2_11) (n := 12) (by decide) (by decide) (by show _ + 2 ≤ 9; omega) (by show _ + (12 + 4) ≤ 64; omega)
  rw [hD4] at O4
  have hC := (⟨hx, hZ, hby, hml, hown, hnm, hret, hlk⟩ : Cx p (s.setVm T4.vm) m meth c Z prog_16_method_3_code 8 none "com/example/eidwerk/eidwerk/card/CommandApdu" "<init>")
  obtain ⟨D5, hq5, hf⟩ := own_bind hf
  obtain ⟨T5, h5, L5, X5, e5, z5, O5, N5, st5⟩ := callSW X4 hx hZ (y := (⟨"com/example/eidwerk/eidwerk/card/CommandApdu", "requireByte", "(ILjava/lang/String;)V"⟩ : MethodName)) hown (hw _ (List.mem_of_getElem? (i := 22) rfl)) (hw _ (List.mem_of_getElem? (i := 23) rfl)) (hw _ (List.mem_of_getElem? (i := 5) rfl)) (hw _ (List.mem_of_getElem? (i := 24) rfl)) (by decide) e4 O4 N3 (as' := [(.int i2), (.ref sa4)]) (ct4 hw hq5) (W := 0) (kc := 0) (ks := 0) rfl rfl (by decide) (by decide) (g := (mkF m 13 #[.val (.ref (n0 + ob0)), .val (.int i1), .val (.int i2), .val (.int i3), .val (.int i4), .val (.ref (n0 + ob5)), .val (.int i6), .val (.int i7)] [(.ref sa4), (.int i2)])) rfl (by rw [hml]; rfl) (rest := []) (lenOf pd_0 rfl) rfl (by show 2 * 0 + _ ≤ _; exact Nat.le_of_eq rfl) (hb hby d2_13) (by show _ + 0 ≤ 9; omega) (by show _ + 0 ≤ 64; omega)
  refine GlW.on (B := T5.setTop (mkF m 17 #[.val (.ref (n0 + ob0)), .val (.int i1), .val (.int i2), .val (.int i3), .val (.int i4), .val (.ref (n0 + ob5)), .val (.int i6), .val (.int i7)] [(.int i3)])) (fun t k => ?_) ?_
  · show Steps p.tables e below (T3.setTop (mkF m 11 #[.val (.ref (n0 + ob0)), .val (.int i1), .val (.int i2), .val (.int i3), .val (.int i4), .val (.ref (n0 + ob5)), .val (.int i6), .val (.int i7)] [(.int i2)])) _
    refine st4 _ ?_
    show Steps p.tables e below (T4.setTop (mkF m 13 #[.val (.ref (n0 + ob0)), .val (.int i1), .val (.int i2), .val (.int i3), .val (.int i4), .val (.ref (n0 + ob5)), .val (.int i6), .val (.int i7)] [(.ref sa4), (.int i2)])) _
    refine st5 _ ?_
    show Steps p.tables e below (T5.setTop (mkF m 16 #[.val (.ref (n0 + ob0)), .val (.int i1), .val (.int i2), .val (.int i3), .val (.int i4), .val (.ref (n0 + ob5)), .val (.int i6), .val (.int i7)] [])) _
    refine XS.iloadN X5.here hx rfl (hb hby d2_16) rfl ?_
    exact k
  obtain ⟨D6, hD6, hf⟩ := own_letE hf
  obtain ⟨sa6, T6, h6, k6, X6, e6, O6, hS, hk6, hZ, hown, st6⟩ := ldcW X5 hx hZ hown (hw _ (List.mem_of_getElem? (i := 26) rfl)) (fun d hd => hw d (own_strs d hd)) e5 O5 rfl hS (Nat.le_trans hk4 z5) (g := (mkF m 17 #[.val (.ref (n0 + ob0)), .val (.int i1), .val (.int i2), .val (.int i3), .val (.int i4), .val (.ref (n0 + ob5)), .val (.int i6), .val (.int i7)] [(.int i3)])) rfl (hb hby d2_17) (n := 8) (by decide) (by decide) (by show _ + 2 ≤ 9; omega) (by show _ + (8 + 4) ≤ 64; omega)
  rw [hD6] at O6
  have hC := (⟨hx, hZ, hby, hml, hown, hnm, hret, hlk⟩ : Cx p (s.setVm T6.vm) m meth c Z prog_16_method_3_code 8 none "com/example/eidwerk/eidwerk/card/CommandApdu" "<init>")
  obtain ⟨D7, hq7, hf⟩ := own_bind hf
  obtain ⟨T7, h7, L7, X7, e7, z7, O7, N7, st7⟩ := callSW X6 hx hZ (y := (⟨"com/example/eidwerk/eidwerk/card/CommandApdu", "requireByte", "(ILjava/lang/String;)V"⟩ : MethodName)) hown (hw _ (List.mem_of_getElem? (i := 22) rfl)) (hw _ (List.mem_of_getElem? (i := 23) rfl)) (hw _ (List.mem_of_getElem? (i := 5) rfl)) (hw _ (List.mem_of_getElem? (i := 24) rfl)) (by decide) e6 O6 N5 (as' := [(.int i3), (.ref sa6)]) (ct4 hw hq7) (W := 0) (kc := 0) (ks := 0) rfl rfl (by decide) (by decide) (g := (mkF m 19 #[.val (.ref (n0 + ob0)), .val (.int i1), .val (.int i2), .val (.int i3), .val (.int i4), .val (.ref (n0 + ob5)), .val (.int i6), .val (.int i7)] [(.ref sa6), (.int i3)])) rfl (by rw [hml]; rfl) (rest := []) (lenOf pd_0 rfl) rfl (by show 2 * 0 + _ ≤ _; exact Nat.le_of_eq rfl) (hb hby d2_19) (by show _ + 0 ≤ 9; omega) (by show _ + 0 ≤ 64; omega)
  refine GlW.on (B := T7.setTop (mkF m 24 #[.val (.ref (n0 + ob0)), .val (.int i1), .val (.int i2), .val (.int i3), .val (.int i4), .val (.ref (n0 + ob5)), .val (.int i6), .val (.int i7)] [(.int i4)])) (fun t k => ?_) ?_
  · show Steps p.tables e below (T5.setTop (mkF m 17 #[.val (.ref (n0 + ob0)), .val (.int i1), .val (.int i2), .val (.int i3), .val (.int i4), .val (.ref (n0 + ob5)), .val (.int i6), .val (.int i7)] [(.int i3)])) _
    refine st6 _ ?_
    show Steps p.tables e below (T6.setTop (mkF m 19 #[.val (.ref (n0 + ob0)), .val (.int i1), .val (.int i2), .val (.int i3), .val (.int i4), .val (.ref (n0 + ob5)), .val (.int i6), .val (.int i7)] [(.ref sa6), (.int i3)])) _
    refine st7 _ ?_
    show Steps p.tables e below (T7.setTop (mkF m 22 #[.val (.ref (n0 + ob0)), .val (.int i1), .val (.int i2), .val (.int i3), .val (.int i4), .val (.ref (n0 + ob5)), .val (.int i6), .val (.int i7)] [])) _
    refine XS.iload X7.here hx rfl (hb hby d2_22) rfl ?_
    exact k
  obtain ⟨D8, hD8, hf⟩ := own_letE hf
  obtain ⟨sa8, T8, h8, k8, X8, e8, O8, hS, hk8, hZ, hown, st8⟩ := ldcW X7 hx hZ hown (hw _ (List.mem_of_getElem? (i := 27) rfl)) (fun d hd => hw d (own_strs d hd)) e7 O7 rfl hS (Nat.le_trans hk6 z7) (g := (mkF m 24 #[.val (.ref (n0 + ob0)), .val (.int i1), .val (.int i2), .val (.int i3), .val (.int i4), .val (.ref (n0 + ob5)), .val (.int i6), .val (.int i7)] [(.int i4)])) rfl (hb hby d2_24) (n := 8) (by decide) (by decide) (by show _ + 2 ≤ 9; omega) (by show _ + (8 + 4) ≤ 64; omega)
  rw [hD8] at O8
  have hC := (⟨hx, hZ, hby, hml, hown, hnm, hret, hlk⟩ : Cx p (s.setVm T8.vm) m meth c Z prog_16_method_3_code 8 none "com/example/eidwerk/eidwerk/card/CommandApdu" "<init>")
  obtain ⟨D9, hq9, hf⟩ := own_bind hf
  obtain ⟨T9, h9, L9, X9, e9, z9, O9, N9, st9⟩ := callSW X8 hx hZ (y := (⟨"com/example/eidwerk/eidwerk/card/CommandApdu", "requireByte", "(ILjava/lang/String;)V"⟩ : MethodName)) hown (hw _ (List.mem_of_getElem? (i := 22) rfl)) (hw _ (List.mem_of_getElem? (i := 23) rfl)) (hw _ (List.mem_of_getElem? (i := 5) rfl)) (hw _ (List.mem_of_getElem? (i := 24) rfl)) (by decide) e8 O8 N7 (as' := [(.int i4), (.ref sa8)]) (ct4 hw hq9) (W := 0) (kc := 0) (ks := 0) rfl rfl (by decide) (by decide) (g := (mkF m 26 #[.val (.ref (n0 + ob0)), .val (.int i1), .val (.int i2), .val (.int i3), .val (.int i4), .val (.ref (n0 + ob5)), .val (.int i6), .val (.int i7)] [(.ref sa8), (.int i4)])) rfl (by rw [hml]; rfl) (rest := []) (lenOf pd_0 rfl) rfl (by show 2 * 0 + _ ≤ _; exact Nat.le_of_eq rfl) (hb hby d2_26) (by show _ + 0 ≤ 9; omega) (by show _ + 0 ≤ 64; omega)
  obtain ⟨x10, hx10, hf⟩ := own_bind hf
  refine GlW.on (B := T9.setTop (mkF m 34 #[.val (.ref (n0 + ob0)), .val (.int i1), .val (.int i2), .val (.int i3), .val (.int i4), .val (.ref (n0 + ob5)), .val (.int i6), .val (.int i7)] [(.int (65535 : Int32)), (.int x10)])) (fun t k => ?_) ?_
  · show Steps p.tables e below (T7.setTop (mkF m 24 #[.val (.ref (n0 + ob0)), .val (.int i1), .val (.int i2), .val (.int i3), .val (.int i4), .val (.ref (n0 + ob5)), .val (.int i6), .val (.int i7)] [(.int i4)])) _
    refine st8 _ ?_
    show Steps p.tables e below (T8.setTop (mkF m 26 #[.val (.ref (n0 + ob0)), .val (.int i1), .val (.int i2), .val (.int i3), .val (.int i4), .val (.ref (n0 + ob5)), .val (.int i6), .val (.int i7)] [(.ref sa8), (.int i4)])) _
    refine st9 _ ?_
    show Steps p.tables e below (T9.setTop (mkF m 29 #[.val (.ref (n0 + ob0)), .val (.int i1), .val (.int i2), .val (.int i3), .val (.int i4), .val (.ref (n0 + ob5)), .val (.int i6), .val (.int i7)] [])) _
    refine XS.aload X9.here hx rfl (hb hby d2_29) rfl rfl ?_
    show Steps p.tables e below (T9.setTop (mkF m 31 #[.val (.ref (n0 + ob0)), .val (.int i1), .val (.int i2), .val (.int i3), .val (.int i4), .val (.ref (n0 + ob5)), .val (.int i6), .val (.int i7)] [(.ref (n0 + ob5))])) _
    refine lenW' X9 hx hZ e9 O9 hx10 (ty := .byte) rfl (g := (mkF m 31 #[.val (.ref (n0 + ob0)), .val (.int i1), .val (.int i2), .val (.int i3), .val (.int i4), .val (.ref (n0 + ob5)), .val (.int i6), .val (.int i7)] [(.ref (n0 + ob5))])) rfl rfl (hb hby d2_31) _ ?_
    show Steps p.tables e below (T9.setTop (mkF m 32 #[.val (.ref (n0 + ob0)), .val (.int i1), .val (.int i2), .val (.int i3), .val (.int i4), .val (.ref (n0 + ob5)), .val (.int i6), .val (.int i7)] [(.int x10)])) _
    refine X9.ldcInt hx hown (mvT hZ (hw _ (List.mem_of_getElem? (i := 28) rfl))) (g := (mkF m 32 #[.val (.ref (n0 + ob0)), .val (.int i1), .val (.int i2), .val (.int i3), .val (.int i4), .val (.ref (n0 + ob5)), .val (.int i6), .val (.int i7)] [(.int x10)])) rfl (hb hby d2_32) _ ?_
    exact k
  by_cases hc11 : (65535 : Int32) < x10
  · rw [if_pos hc11] at hf
    cases hf
  · rw [if_neg hc11] at hf
    refine GlW.on (B := T9.setTop (mkF m 55 #[.val (.ref (n0 + ob0)), .val (.int i1), .val (.int i2), .val (.int i3), .val (.int i4), .val (.ref (n0 + ob5)), .val (.int i6), .val (.int i7)] [(.int i6)])) (fun t k => ?_) ?_
    · show Steps p.tables e below (T9.setTop (mkF m 34 #[.val (.ref (n0 + ob0)), .val (.int i1), .val (.int i2), .val (.int i3), .val (.int i4), .val (.ref (n0 + ob5)), .val (.int i6), .val (.int i7)] [(.int (65535 : Int32)), (.int x10)])) _
      refine XS.icmpYes X9.here hx rfl (pc0 := 34) (pc' := 53) rfl (hb hby d2_34) rfl (flt hc11).2.2.2 (by decide) (by decide) ?_
      show Steps p.tables e below (T9.setTop (mkF m 53 #[.val (.ref (n0 + ob0)), .val (.int i1), .val (.int i2), .val (.int i3), .val (.int i4), .val (.ref (n0 + ob5)), .val (.int i6), .val (.int i7)] [])) _
      refine XS.iload X9.here hx rfl (hb hby d2_53) rfl ?_
      exact k
    by_cases hc12 : i6 < (0 : Int32)
    · rw [if_pos hc12] at hf
      cases hf
    · rw [if_neg hc12] at hf
      refine GlW.on (B := T9.setTop (mkF m 62 #[.val (.ref (n0 + ob0)), .val (.int i1), .val (.int i2), .val (.int i3), .val (.int i4), .val (.ref (n0 + ob5)), .val (.int i6), .val (.int i7)] [(.int (65536 : Int32)), (.int i6)])) (fun t k => ?_) ?_
      · show Steps p.tables e below (T9.setTop (mkF m 55 #[.val (.ref (n0 + ob0)), .val (.int i1), .val (.int i2), .val (.int i3), .val (.int i4), .val (.ref (n0 + ob5)), .val (.int i6), .val (.int i7)] [(.int i6)])) _
        refine XS.ifNo X9.here hx rfl (hb hby d2_55) rfl ((if0 _ _).trans (flt hc12).1) ?_
        show Steps p.tables e below (T9.setTop (mkF m 58 #[.val (.ref (n0 + ob0)), .val (.int i1), .val (.int i2), .val (.int i3), .val (.int i4), .val (.ref (n0 + ob5)), .val (.int i6), .val (.int i7)] [])) _
        refine XS.iload X9.here hx rfl (hb hby d2_58) rfl ?_
        show Steps p.tables e below (T9.setTop (mkF m 60 #[.val (.ref (n0 + ob0)), .val (.int i1), .val (.int i2), .val (.int i3), .val (.int i4), .val (.ref (n0 + ob5)), .val (.int i6), .val (.int i7)] [(.int i6)])) _
        refine X9.ldcInt hx hown (mvT hZ (hw _ (List.mem_of_getElem? (i := 29) rfl))) (g := (mkF m 60 #[.val (.ref (n0 + ob0)), .val (.int i1), .val (.int i2), .val (.int i3), .val (.int i4), .val (.ref (n0 + ob5)), .val (.int i6), .val (.int i7)] [(.int i6)])) rfl (hb hby d2_60) _ ?_
        exact k
      by_cases hc13 : (65536 : Int32) < i6
      · rw [if_pos hc13] at hf
        cases hf
      · rw [if_neg hc13] at hf
        obtain ⟨D14, hq14, hf⟩ := own_bind hf
        obtain ⟨T14, h14, L14, X14, e14, z14, O14, N14, st14⟩ := putW X9 hx hZ hown (hw _ (List.mem_of_getElem? (i := 30) rfl)) (lay1 hw) e9 O9 N9 hq14 rfl rfl (Or.inr ⟨(hw _ (List.mem_of_getElem? (i := 31) rfl)), rfl, hnm⟩) (hw _ (List.mem_of_getElem? (i := 4) rfl)) (ty := .int) (by decide) rfl rfl (g := (mkF m 82 #[.val (.ref (n0 + ob0)), .val (.int i1), .val (.int i2), .val (.int i3), .val (.int i4), .val (.ref (n0 + ob5)), .val (.int i6), .val (.int i7)] [(.int i1), (.ref (n0 + ob0))])) rfl rfl (hb hby d2_82)
        obtain ⟨D15, hq15, hf⟩ := own_bind hf
        obtain ⟨T15, h15, L15, X15, e15, z15, O15, N15, st15⟩ := putW X14 hx hZ hown (hw _ (List.mem_of_getElem? (i := 32) rfl)) (lay1 hw) e14 O14 N14 hq15 rfl rfl (Or.inr ⟨(hw _ (List.mem_of_getElem? (i := 33) rfl)), rfl, hnm⟩) (hw _ (List.mem_of_getElem? (i := 4) rfl)) (ty := .int) (by decide) rfl rfl (g := (mkF m 87 #[.val (.ref (n0 + ob0)), .val (.int i1), .val (.int i2), .val (.int i3), .val (.int i4), .val (.ref (n0 + ob5)), .val (.int i6), .val (.int i7)] [(.int i2), (.ref (n0 + ob0))])) rfl rfl (hb hby d2_87)
        obtain ⟨D16, hq16, hf⟩ := own_bind hf
        obtain ⟨T16, h16, L16, X16, e16, z16, O16, N16, st16⟩ := putW X15 hx hZ hown (hw _ (List.mem_of_getElem? (i := 34) rfl)) (lay1 hw) e15 O15 N15 hq16 rfl rfl (Or.inr ⟨(hw _ (List.mem_of_getElem? (i := 35) rfl)), rfl, hnm⟩) (hw _ (List.mem_of_getElem? (i := 4) rfl)) (ty := .int) (by decide) rfl rfl (g := (mkF m 92 #[.val (.ref (n0 + ob0)), .val (.int i1), .val (.int i2), .val (.int i3), .val (.int i4), .val (.ref (n0 + ob5)), .val (.int i6), .val (.int i7)] [(.int i3), (.ref (n0 + ob0))])) rfl rfl (hb hby d2_92)
        obtain ⟨D17, hq17, hf⟩ := own_bind hf
        obtain ⟨T17, h17, L17, X17, e17, z17, O17, N17, st17⟩ := putW X16 hx hZ hown (hw _ (List.mem_of_getElem? (i := 36) rfl)) (lay1 hw) e16 O16 N16 hq17 rfl rfl (Or.inr ⟨(hw _ (List.mem_of_getElem? (i := 37) rfl)), rfl, hnm⟩) (hw _ (List.mem_of_getElem? (i := 4) rfl)) (ty := .int) (by decide) rfl rfl (g := (mkF m 98 #[.val (.ref (n0 + ob0)), .val (.int i1), .val (.int i2), .val (.int i3), .val (.int i4), .val (.ref (n0 + ob5)), .val (.int i6), .val (.int i7)] [(.int i4), (.ref (n0 + ob0))])) rfl rfl (hb hby d2_98)
        obtain ⟨u19, hk18, hf⟩ := own_bind hf
        obtain ⟨D18, hD18, hf⟩ := own_letE hf
        obtain ⟨T18, h18, sa18, X18, e18, z18, O18, E18, st18⟩ := cloneU X17 hx hZ hown (ty := .byte) (by decide) (hw _ (List.mem_of_getElem? (i := 38) rfl)) (hw _ (List.mem_of_getElem? (i := 39) rfl)) (hw _ (List.mem_of_getElem? (i := 43) rfl)) (hw _ (List.mem_of_getElem? (i := 41) rfl)) (hw _ (List.mem_of_getElem? (i := 42) rfl)) (hw _ (List.mem_of_getElem? (i := 44) rfl)) e17 O17 rfl rfl hk18 (g := (mkF m 104 #[.val (.ref (n0 + ob0)), .val (.int i1), .val (.int i2), .val (.int i3), .val (.int i4), .val (.ref (n0 + ob5)), .val (.int i6), .val (.int i7)] [(.ref (n0 + ob5)), (.ref (n0 + ob0))])) rfl (by rw [hml]; rfl) rfl (hb hby d2_104) (by decide) (W := 1) (by show 2 * 0 + _ ≤ _; exact Nat.le_of_eq rfl) (by decide) (by show _ + 1 ≤ 9; omega) (by show _ + 8 ≤ 64; omega)
        rw [hD18] at O18
        obtain ⟨T20, X20, e20, st20⟩ := castY X18 hx hZ hown (hw _ (List.mem_of_getElem? (i := 45) rfl)) e18 (Ins.self E18) (g := (mkF m 107 #[.val (.ref (n0 + ob0)), .val (.int i1), .val (.int i2), .val (.int i3), .val (.int i4), .val (.ref (n0 + ob5)), .val (.int i6), .val (.int i7)] [(.ref sa18), (.ref (n0 + ob0))])) rfl rfl (hb hby d2_107)
        obtain ⟨u23, hk22, hf⟩ := own_bind hf
        obtain ⟨T22, h22, L22, X22, e22, z22, O22, N22, st22⟩ := putU X20 hx hZ hown (hw _ (List.mem_of_getElem? (i := 47) rfl)) (lay1 hw) e20 O18 N17 hk22 rfl rfl (by decide) (Or.inr ⟨(hw _ (List.mem_of_getElem? (i := 48) rfl)), rfl, hnm⟩) (hw _ (List.mem_of_getElem? (i := 4) rfl)) (ty := (.array .byte)) (by decide) (v := (.ref sa18)) (v' := (.ref sa18)) rfl rfl (g := (mkF m 110 #[.val (.ref (n0 + ob0)), .val (.int i1), .val (.int i2), .val (.int i3), .val (.int i4), .val (.ref (n0 + ob5)), .val (.int i6), .val (.int i7)] [(.ref sa18), (.ref (n0 + ob0))])) rfl rfl (hb hby d2_110)
        obtain ⟨D24, hq24, hf⟩ := own_bind hf
        obtain ⟨T24, h24, L24, X24, e24, z24, O24, N24, st24⟩ := putW X22 hx hZ hown (hw _ (List.mem_of_getElem? (i := 49) rfl)) (lay1 hw) e22 O22 N22 hq24 rfl rfl (Or.inr ⟨(hw _ (List.mem_of_getElem? (i := 50) rfl)), rfl, hnm⟩) (hw _ (List.mem_of_getElem? (i := 4) rfl)) (ty := .int) (by decide) rfl rfl (g := (mkF m 116 #[.val (.ref (n0 + ob0)), .val (.int i1), .val (.int i2), .val (.int i3), .val (.int i4), .val (.ref (n0 + ob5)), .val (.int i6), .val (.int i7)] [(.int i6), (.ref (n0 + ob0))])) rfl rfl (hb hby d2_116)
        obtain ⟨u26, hk25, hf⟩ := own_bind hf
        obtain ⟨T25, h25, L25, X25, e25, z25, O25, N25, st25⟩ := putU X24 hx hZ hown (hw _ (List.mem_of_getElem? (i := 51) rfl)) (lay1 hw) e24 O24 N24 hk25 rfl rfl (by decide) (Or.inr ⟨(hw _ (List.mem_of_getElem? (i := 52) rfl)), rfl, hnm⟩) (hw _ (List.mem_of_getElem? (i := 4) rfl)) (ty := .boolean) (by decide) (v := (.int i7)) (v' := (.int (nar .boolean i7))) rfl (fits_nar_bool i7) (g := (mkF m 122 #[.val (.ref (n0 + ob0)), .val (.int i1), .val (.int i2), .val (.int i3), .val (.int i4), .val (.ref (n0 + ob5)), .val (.int i6), .val (.int i7)] [(.int i7), (.ref (n0 + ob0))])) rfl rfl (hb hby d2_122)
        refine GlW.on (B := T25.setTop (mkF m 125 #[.val (.ref (n0 + ob0)), .val (.int i1), .val (.int i2), .val (.int i3), .val (.int i4), .val (.ref (n0 + ob5)), .val (.int i6), .val (.int i7)] [])) (fun t k => ?_) ?_
        · show Steps p.tables e below (T9.setTop (mkF m 62 #[.val (.ref (n0 + ob0)), .val (.int i1), .val (.int i2), .val (.int i3), .val (.int i4), .val (.ref (n0 + ob5)), .val (.int i6), .val (.int i7)] [(.int (65536 : Int32)), (.int i6)])) _
          refine XS.icmpYes X9.here hx rfl (pc0 := 62) (pc' := 80) rfl (hb hby d2_62) rfl (flt hc13).2.2.2 (by decide) (by decide) ?_
          show Steps p.tables e below (T9.setTop (mkF m 80 #[.val (.ref (n0 + ob0)), .val (.int i1), .val (.int i2), .val (.int i3), .val (.int i4), .val (.ref (n0 + ob5)), .val (.int i6), .val (.int i7)] [])) _
          refine XS.aloadN X9.here hx rfl (hb hby d2_80) rfl rfl ?_
          show Steps p.tables e below (T9.setTop (mkF m 81 #[.val (.ref (n0 + ob0)), .val (.int i1), .val (.int i2), .val (.int i3), .val (.int i4), .val (.ref (n0 + ob5)), .val (.int i6), .val (.int i7)] [(.ref (n0 + ob0))])) _
          refine XS.iloadN X9.here hx rfl (hb hby d2_81) rfl ?_
          show Steps p.tables e below (T9.setTop (mkF m 82 #[.val (.ref (n0 + ob0)), .val (.int i1), .val (.int i2), .val (.int i3), .val (.int i4), .val (.ref (n0 + ob5)), .val (.int i6), .val (.int i7)] [(.int i1), (.ref (n0 + ob0))])) _
          refine st14 _ ?_
          show Steps p.tables e below (T14.setTop (mkF m 85 #[.val (.ref (n0 + ob0)), .val (.int i1), .val (.int i2), .val (.int i3), .val (.int i4), .val (.ref (n0 + ob5)), .val (.int i6), .val (.int i7)] [])) _
          refine XS.aloadN X14.here hx rfl (hb hby d2_85) rfl rfl ?_
          show Steps p.tables e below (T14.setTop (mkF m 86 #[.val (.ref (n0 + ob0)), .val (.int i1), .val (.int i2), .val (.int i3), .val (.int i4), .val (.ref (n0 + ob5)), .val (.int i6), .val (.int i7)] [(.ref (n0 + ob0))])) _
          refine XS.iloadN X14.here hx rfl (hb hby d2_86) rfl ?_
          show Steps p.tables e below (T14.setTop (mkF m 87 #[.val (.ref (n0 + ob0)), .val (.int i1), .val (.int i2), .val (.int i3), .val (.int i4), .val (.ref (n0 + ob5)), .val (.int i6), .val (.int i7)] [(.int i2), (.ref (n0 + ob0))])) _
          refine st15 _ ?_
          show Steps p.tables e below (T15.setTop (mkF m 90 #[.val (.ref (n0 + ob0)), .val (.int i1), .val (.int i2), .val (.int i3), .val (.int i4), .val (.ref (n0 + ob5)), .val (.int i6), .val (.int i7)] [])) _
          refine XS.aloadN X15.here hx rfl (hb hby d2_90) rfl rfl ?_
          show Steps p.tables e below (T15.setTop (mkF m 91 #[.val (.ref (n0 + ob0)), .val (.int i1), .val (.int i2), .val (.int i3), .val (.int i4), .val (.ref (n0 + ob5)), .val (.int i6), .val (.int i7)] [(.ref (n0 + ob0))])) _
          refine XS.iloadN X15.here hx rfl (hb hby d2_91) rfl ?_
          show Steps p.tables e below (T15.setTop (mkF m 92 #[.val (.ref (n0 + ob0)), .val (.int i1), .val (.int i2), .val (.int i3), .val (.int i4), .val (.ref (n0 + ob5)), .val (.int i6), .val (.int i7)] [(.int i3), (.ref (n0 + ob0))])) _
          refine st16 _ ?_
          show Steps p.tables e below (T16.setTop (mkF m 95 #[.val (.ref (n0 + ob0)), .val (.int i1), .val (.int i2), .val (.int i3), .val (.int i4), .val (.ref (n0 + ob5)), .val (.int i6), .val (.int i7)] [])) _
          refine XS.aloadN X16.here hx rfl (hb hby d2_95) rfl rfl ?_
          show Steps p.tables e below (T16.setTop (mkF m 96 #[.val (.ref (n0 + ob0)), .val (.int i1), .val (.int i2), .val (.int i3), .val (.int i4), .val (.ref (n0 + ob5)), .val (.int i6), .val (.int i7)] [(.ref (n0 + ob0))])) _
          refine XS.iload X16.here hx rfl (hb hby d2_96) rfl ?_
          show Steps p.tables e below (T16.setTop (mkF m 98 #[.val (.ref (n0 + ob0)), .val (.int i1), .val (.int i2), .val (.int i3), .val (.int i4), .val (.ref (n0 + ob5)), .val (.int i6), .val (.int i7)] [(.int i4), (.ref (n0 + ob0))])) _
          refine st17 _ ?_
          show Steps p.tables e below (T17.setTop (mkF m 101 #[.val (.ref (n0 + ob0)), .val (.int i1), .val (.int i2), .val (.int i3), .val (.int i4), .val (.ref (n0 + ob5)), .val (.int i6), .val (.int i7)] [])) _
          refine XS.aloadN X17.here hx rfl (hb hby d2_101) rfl rfl ?_
          show Steps p.tables e below (T17.setTop (mkF m 102 #[.val (.ref (n0 + ob0)), .val (.int i1), .val (.int i2), .val (.int i3), .val (.int i4), .val (.ref (n0 + ob5)), .val (.int i6), .val (.int i7)] [(.ref (n0 + ob0))])) _
          refine XS.aload X17.here hx rfl (hb hby d2_102) rfl rfl ?_
          show Steps p.tables e below (T17.setTop (mkF m 104 #[.val (.ref (n0 + ob0)), .val (.int i1), .val (.int i2), .val (.int i3), .val (.int i4), .val (.ref (n0 + ob5)), .val (.int i6), .val (.int i7)] [(.ref (n0 + ob5)), (.ref (n0 + ob0))])) _
          refine st18 _ ?_
          show Steps p.tables e below (T18.setTop (mkF m 107 #[.val (.ref (n0 + ob0)), .val (.int i1), .val (.int i2), .val (.int i3), .val (.int i4), .val (.ref (n0 + ob5)), .val (.int i6), .val (.int i7)] [(.ref sa18), (.ref (n0 + ob0))])) _
          refine st20 _ ?_
          show Steps p.tables e below (T20.setTop (mkF m 110 #[.val (.ref (n0 + ob0)), .val (.int i1), .val (.int i2), .val (.int i3), .val (.int i4), .val (.ref (n0 + ob5)), .val (.int i6), .val (.int i7)] [(.ref sa18), (.ref (n0 + ob0))])) _
          refine st22 _ ?_
          show Steps p.tables e below (T22.setTop (mkF m 113 #[.val (.ref (n0 + ob0)), .val (.int i1), .val (.int i2), .val (.int i3), .val (.int i4), .val (.ref (n0 + ob5)), .val (.int i6), .val (.int i7)] [])) _
          refine XS.aloadN X22.here hx rfl (hb hby d2_113) rfl rfl ?_
          show Steps p.tables e below (T22.setTop (mkF m 114 #[.val (.ref (n0 + ob0)), .val (.int i1), .val (.int i2), .val (.int i3), .val (.int i4), .val (.ref (n0 + ob5)), .val (.int i6), .val (.int i7)] [(.ref (n0 + ob0))])) _
          refine XS.iload X22.here hx rfl (hb hby d2_114) rfl ?_
          show Steps p.tables e below (T22.setTop (mkF m 116 #[.val (.ref (n0 + ob0)), .val (.int i1), .val (.int i2), .val (.int i3), .val (.int i4), .val (.ref (n0 + ob5)), .val (.int i6), .val (.int i7)] [(.int i6), (.ref (n0 + ob0))])) _
          refine st24 _ ?_
          show Steps p.tables e below (T24.setTop (mkF m 119 #[.val (.ref (n0 + ob0)), .val (.int i1), .val (.int i2), .val (.int i3), .val (.int i4), .val (.ref (n0 + ob5)), .val (.int i6), .val (.int i7)] [])) _
          refine XS.aloadN X24.here hx rfl (hb hby d2_119) rfl rfl ?_
          show Steps p.tables e below (T24.setTop (mkF m 120 #[.val (.ref (n0 + ob0)), .val (.int i1), .val (.int i2), .val (.int i3), .val (.int i4), .val (.ref (n0 + ob5)), .val (.int i6), .val (.int i7)] [(.ref (n0 + ob0))])) _
          refine XS.iload X24.here hx rfl (hb hby d2_120) rfl ?_
          show Steps p.tables e below (T24.setTop (mkF m 122 #[.val (.ref (n0 + ob0)), .val (.int i1), .val (.int i2), .val (.int i3), .val (.int i4), .val (.ref (n0 + ob5)), .val (.int i6), .val (.int i7)] [(.int i7), (.ref (n0 + ob0))])) _
          refine st25 _ ?_
          exact k
        obtain rfl := own_inj1 hf
        exact GlW.outV X25 hS (by rw [e25]; exact (Nat.le_trans (Nat.le_trans (Nat.le_trans (Nat.le_trans (Nat.le_trans (Nat.le_trans (Nat.le_trans (Nat.le_trans (Nat.le_trans hk8 z9) z14) z15) z16) z17) z18) z22) z24) z25)) hx hlk hret (hb hby d2_125) ⟨rfl, N25, by rw [e25]; exact O25⟩ (by show _ ≤ 9; omega) (by show _ ≤ 64; omega)
theorem pd_1 : parseMethodDescriptor "(IIII[BIZ)V" = some ⟨[.int, .int, .int, .int, (.array .byte), .int, .boolean], none⟩ := by decide +kernel
theorem d1_0 : decode prog_16_method_1_code 0 = .ok (.aload_n 0, 1) := by decide +kernel
theorem d1_1 : decode prog_16_method_1_code 1 = .ok (.iload_n 1, 1) := by decide +kernel
theorem d1_2 : decode prog_16_method_1_code 2 = .ok (.iload_n 2, 1) := by decide +kernel
theorem d1_3 : decode prog_16_method_1_code 3 = .ok (.iload_n 3, 1) := by decide +kernel
theorem d1_4 : decode prog_16_method_1_code 4 = .ok (.iload 4, 2) := by decide +kernel
theorem d1_6 : decode prog_16_method_1_code 6 = .ok (.aload 5, 2) := by decide +kernel
theorem d1_8 : decode prog_16_method_1_code 8 = .ok (.iload 6, 2) := by decide +kernel
theorem d1_10 : decode prog_16_method_1_code 10 = .ok (.aload 5, 2) := by decide +kernel
theorem d1_12 : decode prog_16_method_1_code 12 = .ok (.arraylength, 1) := by decide +kernel
theorem d1_13 : decode prog_16_method_1_code 13 = .ok (.sipush 255, 3) := by decide +kernel
theorem d1_16 : decode prog_16_method_1_code 16 = .ok (.if_icmp .gt 11, 3) := by decide +kernel
theorem d1_19 : decode prog_16_method_1_code 19 = .ok (.iload 6, 2) := by decide +kernel
theorem d1_21 : decode prog_16_method_1_code 21 = .ok (.sipush 256, 3) := by decide +kernel
theorem d1_24 : decode prog_16_method_1_code 24 = .ok (.if_icmp .le 7, 3) := by decide +kernel
theorem d1_27 : decode prog_16_method_1_code 27 = .ok (.iconst 1, 1) := by decide +kernel
theorem d1_28 : decode prog_16_method_1_code 28 = .ok (.goto 4, 3) := by decide +kernel
theorem d1_31 : decode prog_16_method_1_code 31 = .ok (.iconst 0, 1) := by decide +kernel
theorem d1_32 : decode prog_16_method_1_code 32 = .ok (.invokespecial 3, 3) := by decide +kernel
theorem d1_35 : decode prog_16_method_1_code 35 = .ok (.return_, 1) := by decide +kernel
theorem pn_1 : plainName "com/example/eidwerk/eidwerk/card/CommandApdu" = true := by first | (simp [plainName, overriddenIn]; done) | decide +kernel
def f1 (D : Hp) (ob0 : Nat) (i1 : Int32) (i2 : Int32) (i3 : Int32) (i4 : Int32) (ob5 : Nat) (i6 : Int32) : Option (Hp) :=
  (lA D ob5 0).bind fun x1 =>
  if (255 : Int32) < x1 then ((f2 D ob0 i1 i2 i3 i4 ob5 i6 (1 : Int32)).bind fun D3 =>
  some D3) else (if (256 : Int32) < i6 then ((f2 D ob0 i1 i2 i3 i4 ob5 i6 (1 : Int32)).bind fun D5 =>
  some D5) else ((f2 D ob0 i1 i2 i3 i4 ob5 i6 (0 : Int32)).bind fun D6 =>
  some D6))
theorem ef_1 (m : MethodId) (n0 : Nat) (ob0 : Nat) (i1 : Int32) (i2 : Int32) (i3 : Int32) (i4 : Int32) (ob5 : Nat) (i6 : Int32) : entryFrame m #[(.ref (n0 + ob0)), (.int i1), (.int i2), (.int i3), (.int i4), (.ref (n0 + ob5)), (.int i6)] 7 = mkF m 0 #[.val (.ref (n0 + ob0)), .val (.int i1), .val (.int i2), .val (.int i3), .val (.int i4), .val (.ref (n0 + ob5)), .val (.int i6)] [] := by first | (simp [entryFrame, mkF, argsToLocals, Value.category]; done) | rfl
set_option maxRecDepth 65536 in
set_option maxHeartbeats 40000000 in
theorem ct1 {l : Launch} {Z : State} {a0 : Array Value} (hw : ∀ d ∈ tables_1, d.before a0 Z = true) {n0 : Nat} {D D' : Hp} {ob0 : Nat} {i1 : Int32} {i2 : Int32} {i3 : Int32} {i4 : Int32} {ob5 : Nat} {i6 : Int32} (hf : f1 D ob0 i1 i2 i3 i4 ob5 i6 = some D') :
    CtW Kt1 l Z (⟨"com/example/eidwerk/eidwerk/card/CommandApdu", "<init>", "(IIII[BI)V"⟩ : MethodName) (.code (⟨"com/example/eidwerk/eidwerk/card/CommandApdu", "<init>", "(IIII[BI)V"⟩ : MethodName) prog_16_method_1_code 7 none) ({ frames := 2, cells := 9, slots := 64, locals := 34 } : Room) n0 D #[(.ref (n0 + ob0)), (.int i1), (.int i2), (.int i3), (.int i4), (.ref (n0 + ob5)), (.int i6)] none D' := by
  refine CtW.of (plainFor_of_name pn_1) ?_
  intro p e s m below meth c T0 h0 hC X0 e0 O0 hS
  have hk : 0 ≤ h0.size := Nat.zero_le _
  obtain ⟨hx, hZ, hby, hml, hown, hnm, hret, hlk⟩ := id hC
  have hml : c.maxLocals = 7 := hml
  have hown : (s.setVm s.vm).vm.findClass "com/example/eidwerk/eidwerk/card/CommandApdu" = some m.cls := hown
  have hnm : meth.name = "<init>" := hnm
  have N0 := Fr.nil n0
  refine GlW.on (fun t k => castTop (ef_1 m n0 ob0 i1 i2 i3 i4 ob5 i6) k) ?_
  rw [f1] at hf
  obtain ⟨x1, hx1, hf⟩ := own_bind hf
  refine GlW.on (B := T0.setTop (mkF m 16 #[.val (.ref (n0 + ob0)), .val (.int i1), .val (.int i2), .val (.int i3), .val (.int i4), .val (.ref (n0 + ob5)), .val (.int i6)] [(.int (255 : Int32)), (.int x1), (.int i6), (.ref (n0 + ob5)), (.int i4), (.int i3), (.int i2), (.int i1), (.ref (n0 + ob0))])) (fun t k => ?_) ?_
  · show Steps p.tables e below (T0.setTop (mkF m 0 #[.val (.ref (n0 + ob0)), .val (.int i1), .val (.int i2), .val (.int i3), .val (.int i4), .val (.ref (n0 + ob5)), .val (.int i6)] [])) _
    refine XS.aloadN X0.here hx rfl (hb hby d1_0) rfl rfl ?_
    show Steps p.tables e below (T0.setTop (mkF m 1 #[.val (.ref (n0 + ob0)), .val (.int i1), .val (.int i2), .val (.int i3), .val (.int i4), .val (.ref (n0 + ob5)), .val (.int i6)] [(.ref (n0 + ob0))])) _
    refine XS.iloadN X0.here hx rfl (hb hby d1_1) rfl ?_
    show Steps p.tables e below (T0.setTop (mkF m 2 #[.val (.ref (n0 + ob0)), .val (.int i1), .val (.int i2), .val (.int i3), .val (.int i4), .val (.ref (n0 + ob5)), .val (.int i6)] [(.int i1), (.ref (n0 + ob0))])) _
    refine XS.iloadN X0.here hx rfl (hb hby d1_2) rfl ?_
    show Steps p.tables e below (T0.setTop (mkF m 3 #[.val (.ref (n0 + ob0)), .val (.int i1), .val (.int i2), .val (.int i3), .val (.int i4), .val (.ref (n0 + ob5)), .val (.int i6)] [(.int i2), (.int i1), (.ref (n0 + ob0))])) _
    refine XS.iloadN X0.here hx rfl (hb hby d1_3) rfl ?_
    show Steps p.tables e below (T0.setTop (mkF m 4 #[.val (.ref (n0 + ob0)), .val (.int i1), .val (.int i2), .val (.int i3), .val (.int i4), .val (.ref (n0 + ob5)), .val (.int i6)] [(.int i3), (.int i2), (.int i1), (.ref (n0 + ob0))])) _
    refine XS.iload X0.here hx rfl (hb hby d1_4) rfl ?_
    show Steps p.tables e below (T0.setTop (mkF m 6 #[.val (.ref (n0 + ob0)), .val (.int i1), .val (.int i2), .val (.int i3), .val (.int i4), .val (.ref (n0 + ob5)), .val (.int i6)] [(.int i4), (.int i3), (.int i2), (.int i1), (.ref (n0 + ob0))])) _
    refine XS.aload X0.here hx rfl (hb hby d1_6) rfl rfl ?_
    show Steps p.tables e below (T0.setTop (mkF m 8 #[.val (.ref (n0 + ob0)), .val (.int i1), .val (.int i2), .val (.int i3), .val (.int i4), .val (.ref (n0 + ob5)), .val (.int i6)] [(.ref (n0 + ob5)), (.int i4), (.int i3), (.int i2), (.int i1), (.ref (n0 + ob0))])) _
    refine XS.iload X0.here hx rfl (hb hby d1_8) rfl ?_
    show Steps p.tables e below (T0.setTop (mkF m 10 #[.val (.ref (n0 + ob0)), .val (.int i1), .val (.int i2), .val (.int i3), .val (.int i4), .val (.ref (n0 + ob5)), .val (.int i6)] [(.int i6), (.ref (n0 + ob5)), (.int i4), (.int i3), (.int i2), (.int i1), (.ref (n0 + ob0))])) _
    refine XS.aload X0.here hx rfl (hb hby d1_10) rfl rfl ?_
    show Steps p.tables e below (T0.setTop (mkF m 12 #[.val (.ref (n0 + ob0)), .val (.int i1), .val (.int i2), .val (.int i3), .val (.int i4), .val (.ref (n0 + ob5)), .val (.int i6)] [(.ref (n0 + ob5)), (.int i6), (.ref (n0 + ob5)), (.int i4), (.int i3), (.int i2), (.int i1), (.ref (n0 + ob0))])) _
    refine lenW' X0 hx hZ e0 O0 hx1 (ty := .byte) rfl (g := (mkF m 12 #[.val (.ref (n0 + ob0)), .val (.int i1), .val (.int i2), .val (.int i3), .val (.int i4), .val (.ref (n0 + ob5)), .val (.int i6)] [(.ref (n0 + ob5)), (.int i6), (.ref (n0 + ob5)), (.int i4), (.int i3), (.int i2), (.int i1), (.ref (n0 + ob0))])) rfl rfl (hb hby d1_12) _ ?_
    show Steps p.tables e below (T0.setTop (mkF m 13 #[.val (.ref (n0 + ob0)), .val (.int i1), .val (.int i2), .val (.int i3), .val (.int i4), .val (.ref (n0 + ob5)), .val (.int i6)] [(.int x1), (.int i6), (.ref (n0 + ob5)), (.int i4), (.int i3), (.int i2), (.int i1), (.ref (n0 + ob0))])) _
    refine XS.sipush X0.here hx rfl (hb hby d1_13) ?_
    exact k
  by_cases hc2 : (255 : Int32) < x1
  · rw [if_pos hc2] at hf
    obtain ⟨D3, hq3, hf⟩ := own_bind hf
    refine GlW.on (B := T0.setTop (mkF m 32 #[.val (.ref (n0 + ob0)), .val (.int i1), .val (.int i2), .val (.int i3), .val (.int i4), .val (.ref (n0 + ob5)), .val (.int i6)] [(.int (1 : Int32)), (.int i6), (.ref (n0 + ob5)), (.int i4), (.int i3), (.int i2), (.int i1), (.ref (n0 + ob0))])) (fun t k => ?_) ?_
    · show Steps p.tables e below (T0.setTop (mkF m 16 #[.val (.ref (n0 + ob0)), .val (.int i1), .val (.int i2), .val (.int i3), .val (.int i4), .val (.ref (n0 + ob5)), .val (.int i6)] [(.int (255 : Int32)), (.int x1), (.int i6), (.ref (n0 + ob5)), (.int i4), (.int i3), (.int i2), (.int i1), (.ref (n0 + ob0))])) _
      refine XS.icmpYes X0.here hx rfl (pc0 := 16) (pc' := 27) rfl (hb hby d1_16) rfl (tlt hc2).2.2.1 (by decide) (by decide) ?_
      show Steps p.tables e below (T0.setTop (mkF m 27 #[.val (.ref (n0 + ob0)), .val (.int i1), .val (.int i2), .val (.int i3), .val (.int i4), .val (.ref (n0 + ob5)), .val (.int i6)] [(.int i6), (.ref (n0 + ob5)), (.int i4), (.int i3), (.int i2), (.int i1), (.ref (n0 + ob0))])) _
      refine XS.iconst X0.here hx rfl (hb hby d1_27) ?_
      show Steps p.tables e below (T0.setTop (mkF m 28 #[.val (.ref (n0 + ob0)), .val (.int i1), .val (.int i2), .val (.int i3), .val (.int i4), .val (.ref (n0 + ob5)), .val (.int i6)] [(.int (1 : Int32)), (.int i6), (.ref (n0 + ob5)), (.int i4), (.int i3), (.int i2), (.int i1), (.ref (n0 + ob0))])) _
      refine XS.goto X0.here hx rfl (pc0 := 28) (pc' := 32) rfl (hb hby d1_28) (by decide) (by decide) ?_
      exact k
    obtain ⟨T3, h3, L3, k3, X3, e3, O3, N3, hS, hk3, hZ, hown, st3⟩ := callIWS X0 hx hZ (y := (⟨"com/example/eidwerk/eidwerk/card/CommandApdu", "<init>", "(IIII[BIZ)V"⟩ : MethodName)) rfl hown (hw _ (List.mem_of_getElem? (i := 9) rfl)) (hw _ (List.mem_of_getElem? (i := 10) rfl)) (hw _ (List.mem_of_getElem? (i := 5) rfl)) (hw _ (List.mem_of_getElem? (i := 11) rfl)) (by decide) e0 O0 N0 hS hk (as' := [(.int i1), (.int i2), (.int i3), (.int i4), (.ref (n0 + ob5)), (.int i6), (.int (1 : Int32))]) (ct2 hw hq3) (W := 0) (kc := 9) (ks := 64) rfl rfl (by decide) (by decide) (g := (mkF m 32 #[.val (.ref (n0 + ob0)), .val (.int i1), .val (.int i2), .val (.int i3), .val (.int i4), .val (.ref (n0 + ob5)), .val (.int i6)] [(.int (1 : Int32)), (.int i6), (.ref (n0 + ob5)), (.int i4), (.int i3), (.int i2), (.int i1), (.ref (n0 + ob0))])) rfl (by rw [hml]; rfl) (rest := []) (lenOf pd_1 rfl) rfl (by show 2 * 0 + _ ≤ _; exact Nat.le_of_eq rfl) (hb hby d1_32) (by show _ + 9 ≤ 9; omega) (by show _ + 64 ≤ 64; omega)
    have hC := (⟨hx, hZ, hby, hml, hown, hnm, hret, hlk⟩ : Cx p (s.setVm T3.vm) m meth c Z prog_16_method_1_code 7 none "com/example/eidwerk/eidwerk/card/CommandApdu" "<init>")
    refine GlW.on (B := T3.setTop (mkF m 35 #[.val (.ref (n0 + ob0)), .val (.int i1), .val (.int i2), .val (.int i3), .val (.int i4), .val (.ref (n0 + ob5)), .val (.int i6)] [])) (fun t k => ?_) ?_
    · show Steps p.tables e below (T0.setTop (mkF m 32 #[.val (.ref (n0 + ob0)), .val (.int i1), .val (.int i2), .val (.int i3), .val (.int i4), .val (.ref (n0 + ob5)), .val (.int i6)] [(.int (1 : Int32)), (.int i6), (.ref (n0 + ob5)), (.int i4), (.int i3), (.int i2), (.int i1), (.ref (n0 + ob0))])) _
      refine st3 _ ?_
      exact k
    obtain rfl := own_inj1 hf
    exact GlW.outV X3 hS (by rw [e3]; exact hk3) hx hlk hret (hb hby d1_35) ⟨rfl, N3, by rw [e3]; exact O3⟩ (by show _ ≤ 9; omega) (by show _ ≤ 64; omega)
  · rw [if_neg hc2] at hf
    refine GlW.on (B := T0.setTop (mkF m 24 #[.val (.ref (n0 + ob0)), .val (.int i1), .val (.int i2), .val (.int i3), .val (.int i4), .val (.ref (n0 + ob5)), .val (.int i6)] [(.int (256 : Int32)), (.int i6), (.int i6), (.ref (n0 + ob5)), (.int i4), (.int i3), (.int i2), (.int i1), (.ref (n0 + ob0))])) (fun t k => ?_) ?_
    · show Steps p.tables e below (T0.setTop (mkF m 16 #[.val (.ref (n0 + ob0)), .val (.int i1), .val (.int i2), .val (.int i3), .val (.int i4), .val (.ref (n0 + ob5)), .val (.int i6)] [(.int (255 : Int32)), (.int x1), (.int i6), (.ref (n0 + ob5)), (.int i4), (.int i3), (.int i2), (.int i1), (.ref (n0 + ob0))])) _
      refine XS.icmpNo X0.here hx rfl (hb hby d1_16) rfl (flt hc2).2.2.1 ?_
      show Steps p.tables e below (T0.setTop (mkF m 19 #[.val (.ref (n0 + ob0)), .val (.int i1), .val (.int i2), .val (.int i3), .val (.int i4), .val (.ref (n0 + ob5)), .val (.int i6)] [(.int i6), (.ref (n0 + ob5)), (.int i4), (.int i3), (.int i2), (.int i1), (.ref (n0 + ob0))])) _
      refine XS.iload X0.here hx rfl (hb hby d1_19) rfl ?_
      show Steps p.tables e below (T0.setTop (mkF m 21 #[.val (.ref (n0 + ob0)), .val (.int i1), .val (.int i2), .val (.int i3), .val (.int i4), .val (.ref (n0 + ob5)), .val (.int i6)] [(.int i6), (.int i6), (.ref (n0 + ob5)), (.int i4), (.int i3), (.int i2), (.int i1), (.ref (n0 + ob0))])) _
      refine XS.sipush X0.here hx rfl (hb hby d1_21) ?_
      exact k
    by_cases hc4 : (256 : Int32) < i6
    · rw [if_pos hc4] at hf
      obtain ⟨D5, hq5, hf⟩ := own_bind hf
      refine GlW.on (B := T0.setTop (mkF m 32 #[.val (.ref (n0 + ob0)), .val (.int i1), .val (.int i2), .val (.int i3), .val (.int i4), .val (.ref (n0 + ob5)), .val (.int i6)] [(.int (1 : Int32)), (.int i6), (.ref (n0 + ob5)), (.int i4), (.int i3), (.int i2), (.int i1), (.ref (n0 + ob0))])) (fun t k => ?_) ?_
      · show Steps p.tables e below (T0.setTop (mkF m 24 #[.val (.ref (n0 + ob0)), .val (.int i1), .val (.int i2), .val (.int i3), .val (.int i4), .val (.ref (n0 + ob5)), .val (.int i6)] [(.int (256 : Int32)), (.int i6), (.int i6), (.ref (n0 + ob5)), (.int i4), (.int i3), (.int i2), (.int i1), (.ref (n0 + ob0))])) _
        refine XS.icmpNo X0.here hx rfl (hb hby d1_24) rfl (tlt hc4).2.2.2 ?_
        show Steps p.tables e below (T0.setTop (mkF m 27 #[.val (.ref (n0 + ob0)), .val (.int i1), .val (.int i2), .val (.int i3), .val (.int i4), .val (.ref (n0 + ob5)), .val (.int i6)] [(.int i6), (.ref (n0 + ob5)), (.int i4), (.int i3), (.int i2), (.int i1), (.ref (n0 + ob0))])) _
        refine XS.iconst X0.here hx rfl (hb hby d1_27) ?_
        show Steps p.tables e below (T0.setTop (mkF m 28 #[.val (.ref (n0 + ob0)), .val (.int i1), .val (.int i2), .val (.int i3), .val (.int i4), .val (.ref (n0 + ob5)), .val (.int i6)] [(.int (1 : Int32)), (.int i6), (.ref (n0 + ob5)), (.int i4), (.int i3), (.int i2), (.int i1), (.ref (n0 + ob0))])) _
        refine XS.goto X0.here hx rfl (pc0 := 28) (pc' := 32) rfl (hb hby d1_28) (by decide) (by decide) ?_
        exact k
      obtain ⟨T5, h5, L5, k5, X5, e5, O5, N5, hS, hk5, hZ, hown, st5⟩ := callIWS X0 hx hZ (y := (⟨"com/example/eidwerk/eidwerk/card/CommandApdu", "<init>", "(IIII[BIZ)V"⟩ : MethodName)) rfl hown (hw _ (List.mem_of_getElem? (i := 9) rfl)) (hw _ (List.mem_of_getElem? (i := 10) rfl)) (hw _ (List.mem_of_getElem? (i := 5) rfl)) (hw _ (List.mem_of_getElem? (i := 11) rfl)) (by decide) e0 O0 N0 hS hk (as' := [(.int i1), (.int i2), (.int i3), (.int i4), (.ref (n0 + ob5)), (.int i6), (.int (1 : Int32))]) (ct2 hw hq5) (W := 0) (kc := 9) (ks := 64) rfl rfl (by decide) (by decide) (g := (mkF m 32 #[.val (.ref (n0 + ob0)), .val (.int i1), .val (.int i2), .val (.int i3), .val (.int i4), .val (.ref (n0 + ob5)), .val (.int i6)] [(.int (1 : Int32)), (.int i6), (.ref (n0 + ob5)), (.int i4), (.int i3), (.int i2), (.int i1), (.ref (n0 + ob0))])) rfl (by rw [hml]; rfl) (rest := []) (lenOf pd_1 rfl) rfl (by show 2 * 0 + _ ≤ _; exact Nat.le_of_eq rfl) (hb hby d1_32) (by show _ + 9 ≤ 9; omega) (by show _ + 64 ≤ 64; omega)
      have hC := (⟨hx, hZ, hby, hml, hown, hnm, hret, hlk⟩ : Cx p (s.setVm T5.vm) m meth c Z prog_16_method_1_code 7 none "com/example/eidwerk/eidwerk/card/CommandApdu" "<init>")
      refine GlW.on (B := T5.setTop (mkF m 35 #[.val (.ref (n0 + ob0)), .val (.int i1), .val (.int i2), .val (.int i3), .val (.int i4), .val (.ref (n0 + ob5)), .val (.int i6)] [])) (fun t k => ?_) ?_
      · show Steps p.tables e below (T0.setTop (mkF m 32 #[.val (.ref (n0 + ob0)), .val (.int i1), .val (.int i2), .val (.int i3), .val (.int i4), .val (.ref (n0 + ob5)), .val (.int i6)] [(.int (1 : Int32)), (.int i6), (.ref (n0 + ob5)), (.int i4), (.int i3), (.int i2), (.int i1), (.ref (n0 + ob0))])) _
        refine st5 _ ?_
        exact k
      obtain rfl := own_inj1 hf
      exact GlW.outV X5 hS (by rw [e5]; exact hk5) hx hlk hret (hb hby d1_35) ⟨rfl, N5, by rw [e5]; exact O5⟩ (by show _ ≤ 9; omega) (by show _ ≤ 64; omega)
    · rw [if_neg hc4] at hf
      obtain ⟨D6, hq6, hf⟩ := own_bind hf
      refine GlW.on (B := T0.setTop (mkF m 32 #[.val (.ref (n0 + ob0)), .val (.int i1), .val (.int i2), .val (.int i3), .val (.int i4), .val (.ref (n0 + ob5)), .val (.int i6)] [(.int (0 : Int32)), (.int i6), (.ref (n0 + ob5)), (.int i4), (.int i3), (.int i2), (.int i1), (.ref (n0 + ob0))])) (fun t k => ?_) ?_
      · show Steps p.tables e below (T0.setTop (mkF m 24 #[.val (.ref (n0 + ob0)), .val (.int i1), .val (.int i2), .val (.int i3), .val (.int i4), .val (.ref (n0 + ob5)), .val (.int i6)] [(.int (256 : Int32)), (.int i6), (.int i6), (.ref (n0 + ob5)), (.int i4), (.int i3), (.int i2), (.int i1), (.ref (n0 + ob0))])) _
        refine XS.icmpYes X0.here hx rfl (pc0 := 24) (pc' := 31) rfl (hb hby d1_24) rfl (flt hc4).2.2.2 (by decide) (by decide) ?_
        show Steps p.tables e below (T0.setTop (mkF m 31 #[.val (.ref (n0 + ob0)), .val (.int i1), .val (.int i2), .val (.int i3), .val (.int i4), .val (.ref (n0 + ob5)), .val (.int i6)] [(.int i6), (.ref (n0 + ob5)), (.int i4), (.int i3), (.int i2), (.int i1), (.ref (n0 + ob0))])) _
        refine XS.iconst X0.here hx rfl (hb hby d1_31) ?_
        exact k
      obtain ⟨T6, h6, L6, k6, X6, e6, O6, N6, hS, hk6, hZ, hown, st6⟩ := callIWS X0 hx hZ (y := (⟨"com/example/eidwerk/eidwerk/card/CommandApdu", "<init>", "(IIII[BIZ)V"⟩ : MethodName)) rfl hown (hw _ (List.mem_of_getElem? (i := 9) rfl)) (hw _ (List.mem_of_getElem? (i := 10) rfl)) (hw _ (List.mem_of_getElem? (i := 5) rfl)) (hw _ (List.mem_of_getElem? (i := 11) rfl)) (by decide) e0 O0 N0 hS hk (as' := [(.int i1), (.int i2), (.int i3), (.int i4), (.ref (n0 + ob5)), (.int i6), (.int (0 : Int32))]) (ct2 hw hq6) (W := 0) (kc := 9) (ks := 64) rfl rfl (by decide) (by decide) (g := (mkF m 32 #[.val (.ref (n0 + ob0)), .val (.int i1), .val (.int i2), .val (.int i3), .val (.int i4), .val (.ref (n0 + ob5)), .val (.int i6)] [(.int (0 : Int32)), (.int i6), (.ref (n0 + ob5)), (.int i4), (.int i3), (.int i2), (.int i1), (.ref (n0 + ob0))])) rfl (by rw [hml]; rfl) (rest := []) (lenOf pd_1 rfl) rfl (by show 2 * 0 + _ ≤ _; exact Nat.le_of_eq rfl) (hb hby d1_32) (by show _ + 9 ≤ 9; omega) (by show _ + 64 ≤ 64; omega)
      have hC := (⟨hx, hZ, hby, hml, hown, hnm, hret, hlk⟩ : Cx p (s.setVm T6.vm) m meth c Z prog_16_method_1_code 7 none "com/example/eidwerk/eidwerk/card/CommandApdu" "<init>")
      refine GlW.on (B := T6.setTop (mkF m 35 #[.val (.ref (n0 + ob0)), .val (.int i1), .val (.int i2), .val (.int i3), .val (.int i4), .val (.ref (n0 + ob5)), .val (.int i6)] [])) (fun t k => ?_) ?_
      · show Steps p.tables e below (T0.setTop (mkF m 32 #[.val (.ref (n0 + ob0)), .val (.int i1), .val (.int i2), .val (.int i3), .val (.int i4), .val (.ref (n0 + ob5)), .val (.int i6)] [(.int (0 : Int32)), (.int i6), (.ref (n0 + ob5)), (.int i4), (.int i3), (.int i2), (.int i1), (.ref (n0 + ob0))])) _
        refine st6 _ ?_
        exact k
      obtain rfl := own_inj1 hf
      exact GlW.outV X6 hS (by rw [e6]; exact hk6) hx hlk hret (hb hby d1_35) ⟨rfl, N6, by rw [e6]; exact O6⟩ (by show _ ≤ 9; omega) (by show _ ≤ 64; omega)
theorem d5_0 : decode prog_16_method_11_code 0 = .ok (.aload_n 0, 1) := by decide +kernel
theorem d5_1 : decode prog_16_method_11_code 1 = .ok (.getfield 43, 3) := by decide +kernel
theorem d5_4 : decode prog_16_method_11_code 4 = .ok (.sipush 176, 3) := by decide +kernel
theorem d5_7 : decode prog_16_method_11_code 7 = .ok (.if_icmp .eq 13, 3) := by decide +kernel
theorem d5_10 : decode prog_16_method_11_code 10 = .ok (.aload_n 0, 1) := by decide +kernel
theorem d5_11 : decode prog_16_method_11_code 11 = .ok (.getfield 43, 3) := by decide +kernel
theorem d5_14 : decode prog_16_method_11_code 14 = .ok (.sipush 177, 3) := by decide +kernel
theorem d5_17 : decode prog_16_method_11_code 17 = .ok (.if_icmp .ne 7, 3) := by decide +kernel
theorem d5_20 : decode prog_16_method_11_code 20 = .ok (.iconst 1, 1) := by decide +kernel
theorem d5_21 : decode prog_16_method_11_code 21 = .ok (.goto 4, 3) := by decide +kernel
theorem d5_24 : decode prog_16_method_11_code 24 = .ok (.iconst 0, 1) := by decide +kernel
theorem d5_25 : decode prog_16_method_11_code 25 = .ok (.ireturn, 1) := by decide +kernel
theorem pn_5 : plainName "com/example/eidwerk/eidwerk/card/CommandApdu" = true := by first | (simp [plainName, overriddenIn]; done) | decide +kernel
def f5 (D : Hp) (ob0 : Nat) : Option (Int32 × Hp) :=
  (gI D ob0 1 1).bind fun x1 =>
  if x1 = (176 : Int32) then (some ((1 : Int32), D)) else ((gI D ob0 1 1).bind fun x4 =>
  if x4 = (177 : Int32) then (some ((1 : Int32), D)) else (some ((0 : Int32), D)))
theorem ef_5 (m : MethodId) (n0 : Nat) (ob0 : Nat) : entryFrame m #[(.ref (n0 + ob0))] 1 = mkF m 0 #[.val (.ref (n0 + ob0))] [] := by first | (simp [entryFrame, mkF, argsToLocals, Value.category]; done) | rfl
set_option maxRecDepth 65536 in
set_option maxHeartbeats 40000000 in
theorem ct5 {l : Launch} {Z : State} {a0 : Array Value} (hw : ∀ d ∈ tables_1, d.before a0 Z = true) {n0 : Nat} {D D' : Hp} {ob0 : Nat} {r : Int32} (hf : f5 D ob0 = some (r, D')) :
    Ct Kt1 l Z (⟨"com/example/eidwerk/eidwerk/card/CommandApdu", "isReadBinary", "()Z"⟩ : MethodName) (.code (⟨"com/example/eidwerk/eidwerk/card/CommandApdu", "isReadBinary", "()Z"⟩ : MethodName) prog_16_method_11_code 1 (some .boolean)) ({ frames := 0, cells := 0, slots := 0, locals := 0 } : Room) n0 D #[(.ref (n0 + ob0))] (some (.int r)) D' := by
  refine Ct.of (plainFor_of_name pn_5) ?_
  intro p e s m below meth c T0 h0 hC X0 e0 O0
  obtain ⟨hx, hZ, hby, hml, hown, hnm, hret, hlk⟩ := id hC
  have hml : c.maxLocals = 1 := hml
  have hown : s.vm.findClass "com/example/eidwerk/eidwerk/card/CommandApdu" = some m.cls := hown
  have hnm : meth.name = "isReadBinary" := hnm
  have N0 := Fr.nil n0
  refine Gl.on (fun t k => castTop (ef_5 m n0 ob0) k) ?_
  rw [f5] at hf
  obtain ⟨x1, hx1, hf⟩ := own_bind hf
  obtain ⟨T2, X2, e2, st2⟩ := getF X0 hx hZ hown (host := "") (Or.inl (hw _ (List.mem_of_getElem? (i := 32) rfl))) Via.refl e0 (O0.fld (gI_e hx1) rfl rfl) (g := (mkF m 1 #[.val (.ref (n0 + ob0))] [(.ref (n0 + ob0))])) rfl rfl (hb hby d5_1)
  refine Gl.on (B := T2.setTop (mkF m 7 #[.val (.ref (n0 + ob0))] [(.int (176 : Int32)), (.int x1)])) (fun t k => ?_) ?_
  · show Steps p.tables e below (T0.setTop (mkF m 0 #[.val (.ref (n0 + ob0))] [])) _
    refine XS.aloadN X0.here hx rfl (hb hby d5_0) rfl rfl ?_
    show Steps p.tables e below (T0.setTop (mkF m 1 #[.val (.ref (n0 + ob0))] [(.ref (n0 + ob0))])) _
    refine st2 _ ?_
    show Steps p.tables e below (T2.setTop (mkF m 4 #[.val (.ref (n0 + ob0))] [(.int x1)])) _
    refine XS.sipush X2.here hx rfl (hb hby d5_4) ?_
    exact k
  by_cases hc3 : x1 = (176 : Int32)
  · rw [if_pos hc3] at hf
    refine Gl.on (B := T2.setTop (mkF m 25 #[.val (.ref (n0 + ob0))] [(.int (1 : Int32))])) (fun t k => ?_) ?_
    · show Steps p.tables e below (T2.setTop (mkF m 7 #[.val (.ref (n0 + ob0))] [(.int (176 : Int32)), (.int x1)])) _
      refine XS.icmpYes X2.here hx rfl (pc0 := 7) (pc' := 20) rfl (hb hby d5_7) rfl (teq hc3).1 (by decide) (by decide) ?_
      show Steps p.tables e below (T2.setTop (mkF m 20 #[.val (.ref (n0 + ob0))] [])) _
      refine XS.iconst X2.here hx rfl (hb hby d5_20) ?_
      show Steps p.tables e below (T2.setTop (mkF m 21 #[.val (.ref (n0 + ob0))] [(.int (1 : Int32))])) _
      refine XS.goto X2.here hx rfl (pc0 := 21) (pc' := 25) rfl (hb hby d5_21) (by decide) (by decide) ?_
      exact k
    obtain ⟨rfl, rfl⟩ := own_inj hf
    exact Gl.outN X2 hx hlk (t := .boolean) hret (by simp) (hb hby d5_25) ⟨rfl, N0, by rw [e2]; exact O0⟩ (by show _ ≤ 0; omega) (by show _ ≤ 0; omega)
  · rw [if_neg hc3] at hf
    obtain ⟨x4, hx4, hf⟩ := own_bind hf
    obtain ⟨T5, X5, e5, st5⟩ := getF X2 hx hZ hown (host := "") (Or.inl (hw _ (List.mem_of_getElem? (i := 32) rfl))) Via.refl e2 (O0.fld (gI_e hx4) rfl rfl) (g := (mkF m 11 #[.val (.ref (n0 + ob0))] [(.ref (n0 + ob0))])) rfl rfl (hb hby d5_11)
    refine Gl.on (B := T5.setTop (mkF m 17 #[.val (.ref (n0 + ob0))] [(.int (177 : Int32)), (.int x4)])) (fun t k => ?_) ?_
    · show Steps p.tables e below (T2.setTop (mkF m 7 #[.val (.ref (n0 + ob0))] [(.int (176 : Int32)), (.int x1)])) _
      refine XS.icmpNo X2.here hx rfl (hb hby d5_7) rfl (feq hc3).1 ?_
      show Steps p.tables e below (T2.setTop (mkF m 10 #[.val (.ref (n0 + ob0))] [])) _
      refine XS.aloadN X2.here hx rfl (hb hby d5_10) rfl rfl ?_
      show Steps p.tables e below (T2.setTop (mkF m 11 #[.val (.ref (n0 + ob0))] [(.ref (n0 + ob0))])) _
      refine st5 _ ?_
      show Steps p.tables e below (T5.setTop (mkF m 14 #[.val (.ref (n0 + ob0))] [(.int x4)])) _
      refine XS.sipush X5.here hx rfl (hb hby d5_14) ?_
      exact k
    by_cases hc6 : x4 = (177 : Int32)
    · rw [if_pos hc6] at hf
      refine Gl.on (B := T5.setTop (mkF m 25 #[.val (.ref (n0 + ob0))] [(.int (1 : Int32))])) (fun t k => ?_) ?_
      · show Steps p.tables e below (T5.setTop (mkF m 17 #[.val (.ref (n0 + ob0))] [(.int (177 : Int32)), (.int x4)])) _
        refine XS.icmpNo X5.here hx rfl (hb hby d5_17) rfl (teq hc6).2 ?_
        show Steps p.tables e below (T5.setTop (mkF m 20 #[.val (.ref (n0 + ob0))] [])) _
        refine XS.iconst X5.here hx rfl (hb hby d5_20) ?_
        show Steps p.tables e below (T5.setTop (mkF m 21 #[.val (.ref (n0 + ob0))] [(.int (1 : Int32))])) _
        refine XS.goto X5.here hx rfl (pc0 := 21) (pc' := 25) rfl (hb hby d5_21) (by decide) (by decide) ?_
        exact k
      obtain ⟨rfl, rfl⟩ := own_inj hf
      exact Gl.outN X5 hx hlk (t := .boolean) hret (by simp) (hb hby d5_25) ⟨rfl, N0, by rw [e5]; exact O0⟩ (by show _ ≤ 0; omega) (by show _ ≤ 0; omega)
    · rw [if_neg hc6] at hf
      refine Gl.on (B := T5.setTop (mkF m 25 #[.val (.ref (n0 + ob0))] [(.int (0 : Int32))])) (fun t k => ?_) ?_
      · show Steps p.tables e below (T5.setTop (mkF m 17 #[.val (.ref (n0 + ob0))] [(.int (177 : Int32)), (.int x4)])) _
        refine XS.icmpYes X5.here hx rfl (pc0 := 17) (pc' := 24) rfl (hb hby d5_17) rfl (feq hc6).2 (by decide) (by decide) ?_
        show Steps p.tables e below (T5.setTop (mkF m 24 #[.val (.ref (n0 + ob0))] [])) _
        refine XS.iconst X5.here hx rfl (hb hby d5_24) ?_
        exact k
      obtain ⟨rfl, rfl⟩ := own_inj hf
      exact Gl.outN X5 hx hlk (t := .boolean) hret (by simp) (hb hby d5_25) ⟨rfl, N0, by rw [e5]; exact O0⟩ (by show _ ≤ 0; omega) (by show _ ≤ 0; omega)
theorem pd_2 : parseMethodDescriptor "(IIII[BI)V" = some ⟨[.int, .int, .int, .int, (.array .byte), .int], none⟩ := by decide +kernel
theorem pd_3 : parseMethodDescriptor "()Z" = some ⟨[], some .boolean⟩ := by decide +kernel
theorem pn_0 : plainName "com/example/eidwerk/eidwerk/card/CommandApduIsReadBinaryPinLaw" = true := by first | (simp [plainName, overriddenIn]; done) | decide +kernel
def b0_111 (D : Hp) (ob14 : Nat) (t0 : Int32) : Option (Int32 × Hp) :=
  (ck D ob14 1).bind fun u14 => (f5 D ob14).bind fun q13 => own_let q13.1 fun x15 => own_let q13.2 fun D13 =>
  if x15 = t0 then (some ((1 : Int32), D13)) else (some ((0 : Int32), D13))
set_option maxRecDepth 65536 in
set_option maxHeartbeats 40000000 in
theorem bt0_111 {p : Program} {l : Launch} {e : Env} {s : State} {m : MethodId} {args : Array Value} {below : List Frame} {meth : Method} {c : Code} {Z : State} {a0 : Array Value} {n0 : Nat} {D' : Hp} {r : Int32} {T0 : State} {locs : List Loc} {cells slots : Nat} {h0 : Heap} {D : Hp} {i0 : Int32} {i1 : Int32} {i2 : Int32} {i3 : Int32} {i4 : Int32} {i5 : Int32} {i6 : Int32} {i7 : Int32} {i8 : Int32} {i9 : Int32} {i10 : Int32} {ob11 : Nat} {ob12 : Nat} {ob13 : Nat} {ob14 : Nat} {t0 : Int32} {vm0 : Vm} {k0 : Nat} (hw : ∀ d ∈ tables_1, d.before a0 Z = true) (hC : Cx p (s.setVm vm0) m meth c Z code maxLocals ret "com/example/eidwerk/eidwerk/card/CommandApduIsReadBinaryPinLaw" "law") (X0 : Stand p l e room_1 (s.setVm vm0) m args below meth c T0 locs cells slots) (e0 : T0.heap = h0) (O0 : Ow Kt1 Z h0 n0 D) (N0 : Fr n0 locs) (hS : s.Since vm0 k0) (hk : k0 ≤ h0.size) (hcc : cells ≤ 12) (hss : slots ≤ 72) (hf : b0_111 D ob14 t0 = some (r, D')) : GlW p e below s 24 4224 (Qw Kt1 Z n0 (some (.int r)) D') (T0.setTop (mkF m 111 #[.val (.int i0), .val (.int i1), .val (.int i2), .val (.int i3), .val (.int i4), .val (.int i5), .val (.int i6), .val (.int i7), .val (.int i8), .val (.int i9), .val (.int i10), .val (.ref (n0 + ob11)), .val (.ref (n0 + ob12)), .val (.ref (n0 + ob13)), .val (.ref (n0 + ob14)), .unset] [(.int t0)])) := by
  obtain ⟨hx, hZ, hby, hml, hown, hnm, hret, hlk⟩ := id hC
  have hml : c.maxLocals = 16 := hml
  rw [b0_111] at hf
  obtain ⟨u14, hk13, hf⟩ := own_bind hf
  obtain ⟨⟨x15, D13⟩, hq13, hf⟩ := own_bind hf
  obtain ⟨_, rfl, hf⟩ := own_letE hf
  obtain ⟨_, rfl, hf⟩ := own_letE hf
  obtain ⟨T13, h13, L13, X13, e13, z13, O13, N13, st13⟩ := callVW X0 hx hZ (y := (⟨"com/example/eidwerk/eidwerk/card/CommandApdu", "isReadBinary", "()Z"⟩ : MethodName)) hown (hw _ (List.mem_of_getElem? (i := 53) rfl)) (hw _ (List.mem_of_getElem? (i := 54) rfl)) (hw _ (List.mem_of_getElem? (i := 56) rfl)) (hw _ (List.mem_of_getElem? (i := 55) rfl)) (hw _ (List.mem_of_getElem? (i := 5) rfl)) (hw _ (List.mem_of_getElem? (i := 57) rfl)) (by decide) e0 O0 N0 hk13 rfl (as' := []) (ct5 hw hq13) (W := 0) (kc := 0) (ks := 0) rfl rfl (by decide) (by decide) (g := (mkF m 115 #[.val (.int i0), .val (.int i1), .val (.int i2), .val (.int i3), .val (.int i4), .val (.int i5), .val (.int i6), .val (.int i7), .val (.int i8), .val (.int i9), .val (.int i10), .val (.ref (n0 + ob11)), .val (.ref (n0 + ob12)), .val (.ref (n0 + ob13)), .val (.ref (n0 + ob14)), .val (.int t0)] [(.ref (n0 + ob14))])) rfl (by rw [hml]; rfl) (rest := []) (lenOf pd_3 rfl) rfl (by show 2 * 0 + _ ≤ _; exact Nat.le_of_eq rfl) (hb hby at_115) (by show _ + 0 ≤ 24; omega) (by show _ + 0 ≤ 4224; omega)
  refine GlW.on (B := T13.setTop (mkF m 120 #[.val (.int i0), .val (.int i1), .val (.int i2), .val (.int i3), .val (.int i4), .val (.int i5), .val (.int i6), .val (.int i7), .val (.int i8), .val (.int i9), .val (.int i10), .val (.ref (n0 + ob11)), .val (.ref (n0 + ob12)), .val (.ref (n0 + ob13)), .val (.ref (n0 + ob14)), .val (.int t0)] [(.int t0), (.int x15)])) (fun t k => ?_) ?_
  · show Steps p.tables e below (T0.setTop (mkF m 111 #[.val (.int i0), .val (.int i1), .val (.int i2), .val (.int i3), .val (.int i4), .val (.int i5), .val (.int i6), .val (.int i7), .val (.int i8), .val (.int i9), .val (.int i10), .val (.ref (n0 + ob11)), .val (.ref (n0 + ob12)), .val (.ref (n0 + ob13)), .val (.ref (n0 + ob14)), .unset] [(.int t0)])) _
    refine XS.istore X0.here hx rfl (hb hby at_111) rfl (l' := #[.val (.int i0), .val (.int i1), .val (.int i2), .val (.int i3), .val (.int i4), .val (.int i5), .val (.int i6), .val (.int i7), .val (.int i8), .val (.int i9), .val (.int i10), .val (.ref (n0 + ob11)), .val (.ref (n0 + ob12)), .val (.ref (n0 + ob13)), .val (.ref (n0 + ob14)), .val (.int t0)]) rfl ?_
    show Steps p.tables e below (T0.setTop (mkF m 113 #[.val (.int i0), .val (.int i1), .val (.int i2), .val (.int i3), .val (.int i4), .val (.int i5), .val (.int i6), .val (.int i7), .val (.int i8), .val (.int i9), .val (.int i10), .val (.ref (n0 + ob11)), .val (.ref (n0 + ob12)), .val (.ref (n0 + ob13)), .val (.ref (n0 + ob14)), .val (.int t0)] [])) _
    refine XS.aload X0.here hx rfl (hb hby at_113) rfl rfl ?_
    show Steps p.tables e below (T0.setTop (mkF m 115 #[.val (.int i0), .val (.int i1), .val (.int i2), .val (.int i3), .val (.int i4), .val (.int i5), .val (.int i6), .val (.int i7), .val (.int i8), .val (.int i9), .val (.int i10), .val (.ref (n0 + ob11)), .val (.ref (n0 + ob12)), .val (.ref (n0 + ob13)), .val (.ref (n0 + ob14)), .val (.int t0)] [(.ref (n0 + ob14))])) _
    refine st13 _ ?_
    show Steps p.tables e below (T13.setTop (mkF m 118 #[.val (.int i0), .val (.int i1), .val (.int i2), .val (.int i3), .val (.int i4), .val (.int i5), .val (.int i6), .val (.int i7), .val (.int i8), .val (.int i9), .val (.int i10), .val (.ref (n0 + ob11)), .val (.ref (n0 + ob12)), .val (.ref (n0 + ob13)), .val (.ref (n0 + ob14)), .val (.int t0)] [(.int x15)])) _
    refine XS.iload X13.here hx rfl (hb hby at_118) rfl ?_
    exact k
  by_cases hc16 : x15 = t0
  · rw [if_pos hc16] at hf
    refine GlW.on (B := T13.setTop (mkF m 128 #[.val (.int i0), .val (.int i1), .val (.int i2), .val (.int i3), .val (.int i4), .val (.int i5), .val (.int i6), .val (.int i7), .val (.int i8), .val (.int i9), .val (.int i10), .val (.ref (n0 + ob11)), .val (.ref (n0 + ob12)), .val (.ref (n0 + ob13)), .val (.ref (n0 + ob14)), .val (.int t0)] [(.int (1 : Int32))])) (fun t k => ?_) ?_
    · show Steps p.tables e below (T13.setTop (mkF m 120 #[.val (.int i0), .val (.int i1), .val (.int i2), .val (.int i3), .val (.int i4), .val (.int i5), .val (.int i6), .val (.int i7), .val (.int i8), .val (.int i9), .val (.int i10), .val (.ref (n0 + ob11)), .val (.ref (n0 + ob12)), .val (.ref (n0 + ob13)), .val (.ref (n0 + ob14)), .val (.int t0)] [(.int t0), (.int x15)])) _
      refine XS.icmpNo X13.here hx rfl (hb hby at_120) rfl (teq hc16).2 ?_
      show Steps p.tables e below (T13.setTop (mkF m 123 #[.val (.int i0), .val (.int i1), .val (.int i2), .val (.int i3), .val (.int i4), .val (.int i5), .val (.int i6), .val (.int i7), .val (.int i8), .val (.int i9), .val (.int i10), .val (.ref (n0 + ob11)), .val (.ref (n0 + ob12)), .val (.ref (n0 + ob13)), .val (.ref (n0 + ob14)), .val (.int t0)] [])) _
      refine XS.iconst X13.here hx rfl (hb hby at_123) ?_
      show Steps p.tables e below (T13.setTop (mkF m 124 #[.val (.int i0), .val (.int i1), .val (.int i2), .val (.int i3), .val (.int i4), .val (.int i5), .val (.int i6), .val (.int i7), .val (.int i8), .val (.int i9), .val (.int i10), .val (.ref (n0 + ob11)), .val (.ref (n0 + ob12)), .val (.ref (n0 + ob13)), .val (.ref (n0 + ob14)), .val (.int t0)] [(.int (1 : Int32))])) _
      refine XS.goto X13.here hx rfl (pc0 := 124) (pc' := 128) rfl (hb hby at_124) (by decide) (by decide) ?_
      exact k
    obtain ⟨rfl, rfl⟩ := own_inj hf
    exact GlW.outN X13 hS (by rw [e13]; exact (Nat.le_trans hk z13)) hx hlk (t := .boolean) hret (by simp) (hb hby at_128) ⟨rfl, N13, by rw [e13]; exact O13⟩ (by show _ ≤ 24; omega) (by show _ ≤ 4224; omega)
  · rw [if_neg hc16] at hf
    refine GlW.on (B := T13.setTop (mkF m 128 #[.val (.int i0), .val (.int i1), .val (.int i2), .val (.int i3), .val (.int i4), .val (.int i5), .val (.int i6), .val (.int i7), .val (.int i8), .val (.int i9), .val (.int i10), .val (.ref (n0 + ob11)), .val (.ref (n0 + ob12)), .val (.ref (n0 + ob13)), .val (.ref (n0 + ob14)), .val (.int t0)] [(.int (0 : Int32))])) (fun t k => ?_) ?_
    · show Steps p.tables e below (T13.setTop (mkF m 120 #[.val (.int i0), .val (.int i1), .val (.int i2), .val (.int i3), .val (.int i4), .val (.int i5), .val (.int i6), .val (.int i7), .val (.int i8), .val (.int i9), .val (.int i10), .val (.ref (n0 + ob11)), .val (.ref (n0 + ob12)), .val (.ref (n0 + ob13)), .val (.ref (n0 + ob14)), .val (.int t0)] [(.int t0), (.int x15)])) _
      refine XS.icmpYes X13.here hx rfl (pc0 := 120) (pc' := 127) rfl (hb hby at_120) rfl (feq hc16).2 (by decide) (by decide) ?_
      show Steps p.tables e below (T13.setTop (mkF m 127 #[.val (.int i0), .val (.int i1), .val (.int i2), .val (.int i3), .val (.int i4), .val (.int i5), .val (.int i6), .val (.int i7), .val (.int i8), .val (.int i9), .val (.int i10), .val (.ref (n0 + ob11)), .val (.ref (n0 + ob12)), .val (.ref (n0 + ob13)), .val (.ref (n0 + ob14)), .val (.int t0)] [])) _
      refine XS.iconst X13.here hx rfl (hb hby at_127) ?_
      exact k
    obtain ⟨rfl, rfl⟩ := own_inj hf
    exact GlW.outN X13 hS (by rw [e13]; exact (Nat.le_trans hk z13)) hx hlk (t := .boolean) hret (by simp) (hb hby at_128) ⟨rfl, N13, by rw [e13]; exact O13⟩ (by show _ ≤ 24; omega) (by show _ ≤ 4224; omega)
def b0_71 (D : Hp) (i6 : Int32) (i7 : Int32) (i8 : Int32) (i9 : Int32) (i10 : Int32) (t0 : Nat) : Option (Int32 × Hp) :=
  (nm D).bind fun m10 => own_let (D.length) fun a10 => own_let (D ++ [(1, [(.int (0 : Int32)), (.int (0 : Int32)), (.int (0 : Int32)), (.int (0 : Int32)), (.int (0 : Int32))])]) fun D10 =>
  (f1 D10 a10 i6 i7 i8 i9 t0 i10).bind fun D11 =>
  if (i7 &&& (254 : Int32)) = (176 : Int32) then (b0_111 D11 a10 (1 : Int32)) else (b0_111 D11 a10 (0 : Int32))
set_option maxRecDepth 65536 in
set_option maxHeartbeats 40000000 in
theorem bt0_71 {p : Program} {l : Launch} {e : Env} {s : State} {m : MethodId} {args : Array Value} {below : List Frame} {meth : Method} {c : Code} {Z : State} {a0 : Array Value} {n0 : Nat} {D' : Hp} {r : Int32} {T0 : State} {locs : List Loc} {cells slots : Nat} {h0 : Heap} {D : Hp} {i0 : Int32} {i1 : Int32} {i2 : Int32} {i3 : Int32} {i4 : Int32} {i5 : Int32} {i6 : Int32} {i7 : Int32} {i8 : Int32} {i9 : Int32} {i10 : Int32} {ob11 : Nat} {ob12 : Nat} {t0 : Nat} {vm0 : Vm} {k0 : Nat} (hw : ∀ d ∈ tables_1, d.before a0 Z = true) (hC : Cx p (s.setVm vm0) m meth c Z code maxLocals ret "com/example/eidwerk/eidwerk/card/CommandApduIsReadBinaryPinLaw" "law") (X0 : Stand p l e room_1 (s.setVm vm0) m args below meth c T0 locs cells slots) (e0 : T0.heap = h0) (O0 : Ow Kt1 Z h0 n0 D) (N0 : Fr n0 locs) (hS : s.Since vm0 k0) (hk : k0 ≤ h0.size) (hcc : cells ≤ 2) (hss : slots ≤ 1) (hf : b0_71 D i6 i7 i8 i9 i10 t0 = some (r, D')) : GlW p e below s 24 4224 (Qw Kt1 Z n0 (some (.int r)) D') (T0.setTop (mkF m 71 #[.val (.int i0), .val (.int i1), .val (.int i2), .val (.int i3), .val (.int i4), .val (.int i5), .val (.int i6), .val (.int i7), .val (.int i8), .val (.int i9), .val (.int i10), .val (.ref (n0 + ob11)), .val (.ref (n0 + ob12)), .unset, .unset, .unset] [(.ref (n0 + t0))])) := by
  obtain ⟨hx, hZ, hby, hml, hown, hnm, hret, hlk⟩ := id hC
  have hml : c.maxLocals = 16 := hml
  rw [b0_71] at hf
  obtain ⟨m10, hm10, hf⟩ := own_bind hf
  obtain ⟨a10, ha10, hf⟩ := own_letE hf
  obtain ⟨D10, hD10, hf⟩ := own_letE hf
  obtain ⟨T10, h10, X10, e10, z10, O10, st10⟩ := newW X0 hx hZ hown (hw _ (List.mem_of_getElem? (i := 3) rfl)) (hw _ (List.mem_of_getElem? (i := 4) rfl)) (hw _ (List.mem_of_getElem? (i := 5) rfl)) (lay1 hw) e0 O0 hm10 (t := 1) rfl (ds := [(.int (0 : Int32)), (.int (0 : Int32)), (.int (0 : Int32)), (.int (0 : Int32)), (.int (0 : Int32))]) (by decide) (g := (mkF m 73 #[.val (.int i0), .val (.int i1), .val (.int i2), .val (.int i3), .val (.int i4), .val (.int i5), .val (.int i6), .val (.int i7), .val (.int i8), .val (.int i9), .val (.int i10), .val (.ref (n0 + ob11)), .val (.ref (n0 + ob12)), .val (.ref (n0 + t0)), .unset, .unset] [])) rfl (hb hby at_73) (by show _ + 1 ≤ 24; omega) (by show _ + 7 ≤ 4224; omega)
  rw [ha10] at st10
  rw [hD10] at O10
  obtain ⟨D11, hq11, hf⟩ := own_bind hf
  refine GlW.on (B := T10.setTop (mkF m 89 #[.val (.int i0), .val (.int i1), .val (.int i2), .val (.int i3), .val (.int i4), .val (.int i5), .val (.int i6), .val (.int i7), .val (.int i8), .val (.int i9), .val (.int i10), .val (.ref (n0 + ob11)), .val (.ref (n0 + ob12)), .val (.ref (n0 + t0)), .unset, .unset] [(.int i10), (.ref (n0 + t0)), (.int i9), (.int i8), (.int i7), (.int i6), (.ref (n0 + a10)), (.ref (n0 + a10))])) (fun t k => ?_) ?_
  · show Steps p.tables e below (T0.setTop (mkF m 71 #[.val (.int i0), .val (.int i1), .val (.int i2), .val (.int i3), .val (.int i4), .val (.int i5), .val (.int i6), .val (.int i7), .val (.int i8), .val (.int i9), .val (.int i10), .val (.ref (n0 + ob11)), .val (.ref (n0 + ob12)), .unset, .unset, .unset] [(.ref (n0 + t0))])) _
    refine XS.astore X0.here hx rfl (hb hby at_71) rfl rfl (l' := #[.val (.int i0), .val (.int i1), .val (.int i2), .val (.int i3), .val (.int i4), .val (.int i5), .val (.int i6), .val (.int i7), .val (.int i8), .val (.int i9), .val (.int i10), .val (.ref (n0 + ob11)), .val (.ref (n0 + ob12)), .val (.ref (n0 + t0)), .unset, .unset]) rfl ?_
    show Steps p.tables e below (T0.setTop (mkF m 73 #[.val (.int i0), .val (.int i1), .val (.int i2), .val (.int i3), .val (.int i4), .val (.int i5), .val (.int i6), .val (.int i7), .val (.int i8), .val (.int i9), .val (.int i10), .val (.ref (n0 + ob11)), .val (.ref (n0 + ob12)), .val (.ref (n0 + t0)), .unset, .unset] [])) _
    refine st10 _ ?_
    show Steps p.tables e below (T10.setTop (mkF m 76 #[.val (.int i0), .val (.int i1), .val (.int i2), .val (.int i3), .val (.int i4), .val (.int i5), .val (.int i6), .val (.int i7), .val (.int i8), .val (.int i9), .val (.int i10), .val (.ref (n0 + ob11)), .val (.ref (n0 + ob12)), .val (.ref (n0 + t0)), .unset, .unset] [(.ref (n0 + a10))])) _
    refine XS.dup X10.here hx rfl (hb hby at_76) rfl rfl ?_
    show Steps p.tables e below (T10.setTop (mkF m 77 #[.val (.int i0), .val (.int i1), .val (.int i2), .val (.int i3), .val (.int i4), .val (.int i5), .val (.int i6), .val (.int i7), .val (.int i8), .val (.int i9), .val (.int i10), .val (.ref (n0 + ob11)), .val (.ref (n0 + ob12)), .val (.ref (n0 + t0)), .unset, .unset] [(.ref (n0 + a10)), (.ref (n0 + a10))])) _
    refine XS.iload X10.here hx rfl (hb hby at_77) rfl ?_
    show Steps p.tables e below (T10.setTop (mkF m 79 #[.val (.int i0), .val (.int i1), .val (.int i2), .val (.int i3), .val (.int i4), .val (.int i5), .val (.int i6), .val (.int i7), .val (.int i8), .val (.int i9), .val (.int i10), .val (.ref (n0 + ob11)), .val (.ref (n0 + ob12)), .val (.ref (n0 + t0)), .unset, .unset] [(.int i6), (.ref (n0 + a10)), (.ref (n0 + a10))])) _
    refine XS.iload X10.here hx rfl (hb hby at_79) rfl ?_
    show Steps p.tables e below (T10.setTop (mkF m 81 #[.val (.int i0), .val (.int i1), .val (.int i2), .val (.int i3), .val (.int i4), .val (.int i5), .val (.int i6), .val (.int i7), .val (.int i8), .val (.int i9), .val (.int i10), .val (.ref (n0 + ob11)), .val (.ref (n0 + ob12)), .val (.ref (n0 + t0)), .unset, .unset] [(.int i7), (.int i6), (.ref (n0 + a10)), (.ref (n0 + a10))])) _
    refine XS.iload X10.here hx rfl (hb hby at_81) rfl ?_
    show Steps p.tables e below (T10.setTop (mkF m 83 #[.val (.int i0), .val (.int i1), .val (.int i2), .val (.int i3), .val (.int i4), .val (.int i5), .val (.int i6), .val (.int i7), .val (.int i8), .val (.int i9), .val (.int i10), .val (.ref (n0 + ob11)), .val (.ref (n0 + ob12)), .val (.ref (n0 + t0)), .unset, .unset] [(.int i8), (.int i7), (.int i6), (.ref (n0 + a10)), (.ref (n0 + a10))])) _
    refine XS.iload X10.here hx rfl (hb hby at_83) rfl ?_
    show Steps p.tables e below (T10.setTop (mkF m 85 #[.val (.int i0), .val (.int i1), .val (.int i2), .val (.int i3), .val (.int i4), .val (.int i5), .val (.int i6), .val (.int i7), .val (.int i8), .val (.int i9), .val (.int i10), .val (.ref (n0 + ob11)), .val (.ref (n0 + ob12)), .val (.ref (n0 + t0)), .unset, .unset] [(.int i9), (.int i8), (.int i7), (.int i6), (.ref (n0 + a10)), (.ref (n0 + a10))])) _
    refine XS.aload X10.here hx rfl (hb hby at_85) rfl rfl ?_
    show Steps p.tables e below (T10.setTop (mkF m 87 #[.val (.int i0), .val (.int i1), .val (.int i2), .val (.int i3), .val (.int i4), .val (.int i5), .val (.int i6), .val (.int i7), .val (.int i8), .val (.int i9), .val (.int i10), .val (.ref (n0 + ob11)), .val (.ref (n0 + ob12)), .val (.ref (n0 + t0)), .unset, .unset] [(.ref (n0 + t0)), (.int i9), (.int i8), (.int i7), (.int i6), (.ref (n0 + a10)), (.ref (n0 + a10))])) _
    refine XS.iload X10.here hx rfl (hb hby at_87) rfl ?_
    exact k
  obtain ⟨T11, h11, L11, k11, X11, e11, O11, N11, hS, hk11, hZ, hown, st11⟩ := callIWS X10 hx hZ (y := (⟨"com/example/eidwerk/eidwerk/card/CommandApdu", "<init>", "(IIII[BI)V"⟩ : MethodName)) rfl hown (hw _ (List.mem_of_getElem? (i := 6) rfl)) (hw _ (List.mem_of_getElem? (i := 7) rfl)) (hw _ (List.mem_of_getElem? (i := 5) rfl)) (hw _ (List.mem_of_getElem? (i := 8) rfl)) (by decide) e10 O10 N0 hS (Nat.le_trans hk z10) (as' := [(.int i6), (.int i7), (.int i8), (.int i9), (.ref (n0 + t0)), (.int i10)]) (ct1 hw hq11) (W := 1) (kc := 9) (ks := 64) rfl rfl (by decide) (by decide) (g := (mkF m 89 #[.val (.int i0), .val (.int i1), .val (.int i2), .val (.int i3), .val (.int i4), .val (.int i5), .val (.int i6), .val (.int i7), .val (.int i8), .val (.int i9), .val (.int i10), .val (.ref (n0 + ob11)), .val (.ref (n0 + ob12)), .val (.ref (n0 + t0)), .unset, .unset] [(.int i10), (.ref (n0 + t0)), (.int i9), (.int i8), (.int i7), (.int i6), (.ref (n0 + a10)), (.ref (n0 + a10))])) rfl (by rw [hml]; rfl) (rest := [(.ref (n0 + a10))]) (lenOf pd_2 rfl) rfl (by show 2 * 0 + _ ≤ _; exact Nat.le_of_eq rfl) (hb hby at_89) (by show _ + 9 ≤ 24; omega) (by show _ + 64 ≤ 4224; omega)
  have hC := (⟨hx, hZ, hby, hml, hown, hnm, hret, hlk⟩ : Cx p (s.setVm T11.vm) m meth c Z code maxLocals ret "com/example/eidwerk/eidwerk/card/CommandApduIsReadBinaryPinLaw" "law")
  refine GlW.on (B := T11.setTop (mkF m 103 #[.val (.int i0), .val (.int i1), .val (.int i2), .val (.int i3), .val (.int i4), .val (.int i5), .val (.int i6), .val (.int i7), .val (.int i8), .val (.int i9), .val (.int i10), .val (.ref (n0 + ob11)), .val (.ref (n0 + ob12)), .val (.ref (n0 + t0)), .val (.ref (n0 + a10)), .unset] [(.int (176 : Int32)), (.int (i7 &&& (254 : Int32)))])) (fun t k => ?_) ?_
  · show Steps p.tables e below (T10.setTop (mkF m 89 #[.val (.int i0), .val (.int i1), .val (.int i2), .val (.int i3), .val (.int i4), .val (.int i5), .val (.int i6), .val (.int i7), .val (.int i8), .val (.int i9), .val (.int i10), .val (.ref (n0 + ob11)), .val (.ref (n0 + ob12)), .val (.ref (n0 + t0)), .unset, .unset] [(.int i10), (.ref (n0 + t0)), (.int i9), (.int i8), (.int i7), (.int i6), (.ref (n0 + a10)), (.ref (n0 + a10))])) _
    refine st11 _ ?_
    show Steps p.tables e below (T11.setTop (mkF m 92 #[.val (.int i0), .val (.int i1), .val (.int i2), .val (.int i3), .val (.int i4), .val (.int i5), .val (.int i6), .val (.int i7), .val (.int i8), .val (.int i9), .val (.int i10), .val (.ref (n0 + ob11)), .val (.ref (n0 + ob12)), .val (.ref (n0 + t0)), .unset, .unset] [(.ref (n0 + a10))])) _
    refine XS.astore X11.here hx rfl (hb hby at_92) rfl rfl (l' := #[.val (.int i0), .val (.int i1), .val (.int i2), .val (.int i3), .val (.int i4), .val (.int i5), .val (.int i6), .val (.int i7), .val (.int i8), .val (.int i9), .val (.int i10), .val (.ref (n0 + ob11)), .val (.ref (n0 + ob12)), .val (.ref (n0 + t0)), .val (.ref (n0 + a10)), .unset]) rfl ?_
    show Steps p.tables e below (T11.setTop (mkF m 94 #[.val (.int i0), .val (.int i1), .val (.int i2), .val (.int i3), .val (.int i4), .val (.int i5), .val (.int i6), .val (.int i7), .val (.int i8), .val (.int i9), .val (.int i10), .val (.ref (n0 + ob11)), .val (.ref (n0 + ob12)), .val (.ref (n0 + t0)), .val (.ref (n0 + a10)), .unset] [])) _
    refine XS.iload X11.here hx rfl (hb hby at_94) rfl ?_
    show Steps p.tables e below (T11.setTop (mkF m 96 #[.val (.int i0), .val (.int i1), .val (.int i2), .val (.int i3), .val (.int i4), .val (.int i5), .val (.int i6), .val (.int i7), .val (.int i8), .val (.int i9), .val (.int i10), .val (.ref (n0 + ob11)), .val (.ref (n0 + ob12)), .val (.ref (n0 + t0)), .val (.ref (n0 + a10)), .unset] [(.int i7)])) _
    refine XS.sipush X11.here hx rfl (hb hby at_96) ?_
    show Steps p.tables e below (T11.setTop (mkF m 99 #[.val (.int i0), .val (.int i1), .val (.int i2), .val (.int i3), .val (.int i4), .val (.int i5), .val (.int i6), .val (.int i7), .val (.int i8), .val (.int i9), .val (.int i10), .val (.ref (n0 + ob11)), .val (.ref (n0 + ob12)), .val (.ref (n0 + t0)), .val (.ref (n0 + a10)), .unset] [(.int (254 : Int32)), (.int i7)])) _
    refine XS.iand X11.here hx rfl (hb hby at_99) rfl ?_
    show Steps p.tables e below (T11.setTop (mkF m 100 #[.val (.int i0), .val (.int i1), .val (.int i2), .val (.int i3), .val (.int i4), .val (.int i5), .val (.int i6), .val (.int i7), .val (.int i8), .val (.int i9), .val (.int i10), .val (.ref (n0 + ob11)), .val (.ref (n0 + ob12)), .val (.ref (n0 + t0)), .val (.ref (n0 + a10)), .unset] [(.int (i7 &&& (254 : Int32)))])) _
    refine XS.sipush X11.here hx rfl (hb hby at_100) ?_
    exact k
  by_cases hc12 : (i7 &&& (254 : Int32)) = (176 : Int32)
  · rw [if_pos hc12] at hf
    refine GlW.on (B := T11.setTop (mkF m 111 #[.val (.int i0), .val (.int i1), .val (.int i2), .val (.int i3), .val (.int i4), .val (.int i5), .val (.int i6), .val (.int i7), .val (.int i8), .val (.int i9), .val (.int i10), .val (.ref (n0 + ob11)), .val (.ref (n0 + ob12)), .val (.ref (n0 + t0)), .val (.ref (n0 + a10)), .unset] [(.int (1 : Int32))])) (fun t k => ?_) ?_
    · show Steps p.tables e below (T11.setTop (mkF m 103 #[.val (.int i0), .val (.int i1), .val (.int i2), .val (.int i3), .val (.int i4), .val (.int i5), .val (.int i6), .val (.int i7), .val (.int i8), .val (.int i9), .val (.int i10), .val (.ref (n0 + ob11)), .val (.ref (n0 + ob12)), .val (.ref (n0 + t0)), .val (.ref (n0 + a10)), .unset] [(.int (176 : Int32)), (.int (i7 &&& (254 : Int32)))])) _
      refine XS.icmpNo X11.here hx rfl (hb hby at_103) rfl (teq hc12).2 ?_
      show Steps p.tables e below (T11.setTop (mkF m 106 #[.val (.int i0), .val (.int i1), .val (.int i2), .val (.int i3), .val (.int i4), .val (.int i5), .val (.int i6), .val (.int i7), .val (.int i8), .val (.int i9), .val (.int i10), .val (.ref (n0 + ob11)), .val (.ref (n0 + ob12)), .val (.ref (n0 + t0)), .val (.ref (n0 + a10)), .unset] [])) _
      refine XS.iconst X11.here hx rfl (hb hby at_106) ?_
      show Steps p.tables e below (T11.setTop (mkF m 107 #[.val (.int i0), .val (.int i1), .val (.int i2), .val (.int i3), .val (.int i4), .val (.int i5), .val (.int i6), .val (.int i7), .val (.int i8), .val (.int i9), .val (.int i10), .val (.ref (n0 + ob11)), .val (.ref (n0 + ob12)), .val (.ref (n0 + t0)), .val (.ref (n0 + a10)), .unset] [(.int (1 : Int32))])) _
      refine XS.goto X11.here hx rfl (pc0 := 107) (pc' := 111) rfl (hb hby at_107) (by decide) (by decide) ?_
      exact k
    exact bt0_111 hw hC X11 e11 O11 N11 hS hk11 (by omega) (by omega) hf
  · rw [if_neg hc12] at hf
    refine GlW.on (B := T11.setTop (mkF m 111 #[.val (.int i0), .val (.int i1), .val (.int i2), .val (.int i3), .val (.int i4), .val (.int i5), .val (.int i6), .val (.int i7), .val (.int i8), .val (.int i9), .val (.int i10), .val (.ref (n0 + ob11)), .val (.ref (n0 + ob12)), .val (.ref (n0 + t0)), .val (.ref (n0 + a10)), .unset] [(.int (0 : Int32))])) (fun t k => ?_) ?_
    · show Steps p.tables e below (T11.setTop (mkF m 103 #[.val (.int i0), .val (.int i1), .val (.int i2), .val (.int i3), .val (.int i4), .val (.int i5), .val (.int i6), .val (.int i7), .val (.int i8), .val (.int i9), .val (.int i10), .val (.ref (n0 + ob11)), .val (.ref (n0 + ob12)), .val (.ref (n0 + t0)), .val (.ref (n0 + a10)), .unset] [(.int (176 : Int32)), (.int (i7 &&& (254 : Int32)))])) _
      refine XS.icmpYes X11.here hx rfl (pc0 := 103) (pc' := 110) rfl (hb hby at_103) rfl (feq hc12).2 (by decide) (by decide) ?_
      show Steps p.tables e below (T11.setTop (mkF m 110 #[.val (.int i0), .val (.int i1), .val (.int i2), .val (.int i3), .val (.int i4), .val (.int i5), .val (.int i6), .val (.int i7), .val (.int i8), .val (.int i9), .val (.int i10), .val (.ref (n0 + ob11)), .val (.ref (n0 + ob12)), .val (.ref (n0 + t0)), .val (.ref (n0 + a10)), .unset] [])) _
      refine XS.iconst X11.here hx rfl (hb hby at_110) ?_
      exact k
    exact bt0_111 hw hC X11 e11 O11 N11 hS hk11 (by omega) (by omega) hf
def f0 (D : Hp) (i0 : Int32) (i1 : Int32) (i2 : Int32) (i3 : Int32) (i4 : Int32) (i5 : Int32) : Option (Int32 × Hp) :=
  own_let (i0 &&& (255 : Int32)) fun v1 =>
  own_let (i1 &&& (255 : Int32)) fun v2 =>
  own_let (i2 &&& (255 : Int32)) fun v3 =>
  own_let (i3 &&& (255 : Int32)) fun v4 =>
  own_let ((i4 &&& (2147483647 : Int32)) % (65537 : Int32)) fun v5 =>
  (nm D).bind fun m6 => own_let (D.length) fun a6 => (nA D 0 (0 : Int32) 0 (.int (0 : Int32))).bind fun D6 =>
  (nm D6).bind fun m7 => own_let (D6.length) fun a7 => (nA D6 0 (1 : Int32) 1 (.int (0 : Int32))).bind fun D7 =>
  (wV D7 a7 0 (0 : Int32) (.int ((i5 >>> ((1 : Int32) &&& 31)).toInt8.toInt32).toInt8.toInt32)).bind fun D8 =>
  if (i5 &&& (1 : Int32)) = (0 : Int32) then (b0_71 D8 v1 v2 v3 v4 v5 a6) else (b0_71 D8 v1 v2 v3 v4 v5 a7)
theorem ef_0 (m : MethodId) (i0 : Int32) (i1 : Int32) (i2 : Int32) (i3 : Int32) (i4 : Int32) (i5 : Int32) : entryFrame m #[(.int i0), (.int i1), (.int i2), (.int i3), (.int i4), (.int i5)] maxLocals = mkF m 0 #[.val (.int i0), .val (.int i1), .val (.int i2), .val (.int i3), .val (.int i4), .val (.int i5), .unset, .unset, .unset, .unset, .unset, .unset, .unset, .unset, .unset, .unset] [] := by first | (simp [entryFrame, mkF, argsToLocals, Value.category, maxLocals]; done) | rfl
set_option maxRecDepth 65536 in
set_option maxHeartbeats 40000000 in
theorem ct0 {l : Launch} {Z : State} {a0 : Array Value} (hw : ∀ d ∈ tables_1, d.before a0 Z = true) {n0 : Nat} {D D' : Hp} {i0 : Int32} {i1 : Int32} {i2 : Int32} {i3 : Int32} {i4 : Int32} {i5 : Int32} {r : Int32} (hf : f0 D i0 i1 i2 i3 i4 i5 = some (r, D')) :
    CtW Kt1 l Z x (.code x code maxLocals ret) room_1 n0 D #[(.int i0), (.int i1), (.int i2), (.int i3), (.int i4), (.int i5)] (some (.int r)) D' := by
  refine CtW.of (plainFor_of_name pn_0) ?_
  intro p e s m below meth c T0 h0 hC X0 e0 O0 hS
  have hk : 0 ≤ h0.size := Nat.zero_le _
  obtain ⟨hx, hZ, hby, hml, hown, hnm, hret, hlk⟩ := id hC
  have hml : c.maxLocals = 16 := hml
  have hown : (s.setVm s.vm).vm.findClass "com/example/eidwerk/eidwerk/card/CommandApduIsReadBinaryPinLaw" = some m.cls := hown
  have hnm : meth.name = "law" := hnm
  have N0 := Fr.nil n0
  refine GlW.on (fun t k => castTop (ef_0 m i0 i1 i2 i3 i4 i5) k) ?_
  rw [f0] at hf
  obtain ⟨v1, hv1, hf⟩ := own_letE hf
  obtain ⟨v2, hv2, hf⟩ := own_letE hf
  obtain ⟨v3, hv3, hf⟩ := own_letE hf
  obtain ⟨v4, hv4, hf⟩ := own_letE hf
  obtain ⟨v5, hv5, hf⟩ := own_letE hf
  obtain ⟨m6, hm6, hf⟩ := own_bind hf
  obtain ⟨a6, ha6, hf⟩ := own_letE hf
  obtain ⟨D6, hD6, hf⟩ := own_bind hf
  obtain ⟨T6, h6, X6, e6, z6, O6, st6⟩ := newAW X0 hx hZ (aty := .byte) (hw _ (List.mem_of_getElem? (i := 2) rfl)) e0 O0 hm6 rfl rfl hD6 (g := (mkF m 39 #[.val (.int i0), .val (.int i1), .val (.int i2), .val (.int i3), .val (.int i4), .val (.int i5), .val (.int v1), .val (.int v2), .val (.int v3), .val (.int v4), .val (.int v5), .unset, .unset, .unset, .unset, .unset] [(.int (0 : Int32))])) rfl (hb hby at_39) rfl (by decide) (by show _ + 1 ≤ 24; omega) (by show _ + 0 ≤ 4224; omega)
  rw [ha6] at st6
  obtain ⟨m7, hm7, hf⟩ := own_bind hf
  obtain ⟨a7, ha7, hf⟩ := own_letE hf
  obtain ⟨D7, hD7, hf⟩ := own_bind hf
  obtain ⟨T7, h7, X7, e7, z7, O7, st7⟩ := newAW X6 hx hZ (aty := .byte) (hw _ (List.mem_of_getElem? (i := 2) rfl)) e6 O6 hm7 rfl rfl hD7 (g := (mkF m 44 #[.val (.int i0), .val (.int i1), .val (.int i2), .val (.int i3), .val (.int i4), .val (.int i5), .val (.int v1), .val (.int v2), .val (.int v3), .val (.int v4), .val (.int v5), .val (.ref (n0 + a6)), .unset, .unset, .unset, .unset] [(.int (1 : Int32))])) rfl (hb hby at_44) rfl (by decide) (by show _ + 1 ≤ 24; omega) (by show _ + 1 ≤ 4224; omega)
  rw [ha7] at st7
  obtain ⟨D8, hq8, hf⟩ := own_bind hf
  obtain ⟨T8, h8, L8, X8, e8, z8, O8, N8, st8⟩ := stBW X7 hx hZ e7 O7 N0 hq8 rfl (g := (mkF m 56 #[.val (.int i0), .val (.int i1), .val (.int i2), .val (.int i3), .val (.int i4), .val (.int i5), .val (.int v1), .val (.int v2), .val (.int v3), .val (.int v4), .val (.int v5), .val (.ref (n0 + a6)), .val (.ref (n0 + a7)), .unset, .unset, .unset] [(.int ((i5 >>> ((1 : Int32) &&& 31)).toInt8.toInt32)), (.int (0 : Int32)), (.ref (n0 + a7))])) rfl rfl (hb hby at_56)
  refine GlW.on (B := T8.setTop (mkF m 61 #[.val (.int i0), .val (.int i1), .val (.int i2), .val (.int i3), .val (.int i4), .val (.int i5), .val (.int v1), .val (.int v2), .val (.int v3), .val (.int v4), .val (.int v5), .val (.ref (n0 + a6)), .val (.ref (n0 + a7)), .unset, .unset, .unset] [(.int (i5 &&& (1 : Int32)))])) (fun t k => ?_) ?_
  · show Steps p.tables e below (T0.setTop (mkF m 0 #[.val (.int i0), .val (.int i1), .val (.int i2), .val (.int i3), .val (.int i4), .val (.int i5), .unset, .unset, .unset, .unset, .unset, .unset, .unset, .unset, .unset, .unset] [])) _
    refine XS.iloadN X0.here hx rfl (hb hby at_0) rfl ?_
    show Steps p.tables e below (T0.setTop (mkF m 1 #[.val (.int i0), .val (.int i1), .val (.int i2), .val (.int i3), .val (.int i4), .val (.int i5), .unset, .unset, .unset, .unset, .unset, .unset, .unset, .unset, .unset, .unset] [(.int i0)])) _
    refine XS.sipush X0.here hx rfl (hb hby at_1) ?_
    show Steps p.tables e below (T0.setTop (mkF m 4 #[.val (.int i0), .val (.int i1), .val (.int i2), .val (.int i3), .val (.int i4), .val (.int i5), .unset, .unset, .unset, .unset, .unset, .unset, .unset, .unset, .unset, .unset] [(.int (255 : Int32)), (.int i0)])) _
    refine XS.iand X0.here hx rfl (hb hby at_4) rfl ?_
    show Steps p.tables e below (T0.setTop (mkF m 5 #[.val (.int i0), .val (.int i1), .val (.int i2), .val (.int i3), .val (.int i4), .val (.int i5), .unset, .unset, .unset, .unset, .unset, .unset, .unset, .unset, .unset, .unset] [(.int (i0 &&& (255 : Int32)))])) _
    refine own_to (congrArg (fun z => T0.setTop (mkF m 5 #[.val (.int i0), .val (.int i1), .val (.int i2), .val (.int i3), .val (.int i4), .val (.int i5), .unset, .unset, .unset, .unset, .unset, .unset, .unset, .unset, .unset, .unset] [(.int z)])) hv1) ?_
    show Steps p.tables e below (T0.setTop (mkF m 5 #[.val (.int i0), .val (.int i1), .val (.int i2), .val (.int i3), .val (.int i4), .val (.int i5), .unset, .unset, .unset, .unset, .unset, .unset, .unset, .unset, .unset, .unset] [(.int v1)])) _
    refine XS.istore X0.here hx rfl (hb hby at_5) rfl (l' := #[.val (.int i0), .val (.int i1), .val (.int i2), .val (.int i3), .val (.int i4), .val (.int i5), .val (.int v1), .unset, .unset, .unset, .unset, .unset, .unset, .unset, .unset, .unset]) rfl ?_
    show Steps p.tables e below (T0.setTop (mkF m 7 #[.val (.int i0), .val (.int i1), .val (.int i2), .val (.int i3), .val (.int i4), .val (.int i5), .val (.int v1), .unset, .unset, .unset, .unset, .unset, .unset, .unset, .unset, .unset] [])) _
    refine XS.iloadN X0.here hx rfl (hb hby at_7) rfl ?_
    show Steps p.tables e below (T0.setTop (mkF m 8 #[.val (.int i0), .val (.int i1), .val (.int i2), .val (.int i3), .val (.int i4), .val (.int i5), .val (.int v1), .unset, .unset, .unset, .unset, .unset, .unset, .unset, .unset, .unset] [(.int i1)])) _
    refine XS.sipush X0.here hx rfl (hb hby at_8) ?_
    show Steps p.tables e below (T0.setTop (mkF m 11 #[.val (.int i0), .val (.int i1), .val (.int i2), .val (.int i3), .val (.int i4), .val (.int i5), .val (.int v1), .unset, .unset, .unset, .unset, .unset, .unset, .unset, .unset, .unset] [(.int (255 : Int32)), (.int i1)])) _
    refine XS.iand X0.here hx rfl (hb hby at_11) rfl ?_
    show Steps p.tables e below (T0.setTop (mkF m 12 #[.val (.int i0), .val (.int i1), .val (.int i2), .val (.int i3), .val (.int i4), .val (.int i5), .val (.int v1), .unset, .unset, .unset, .unset, .unset, .unset, .unset, .unset, .unset] [(.int (i1 &&& (255 : Int32)))])) _
    refine own_to (congrArg (fun z => T0.setTop (mkF m 12 #[.val (.int i0), .val (.int i1), .val (.int i2), .val (.int i3), .val (.int i4), .val (.int i5), .val (.int v1), .unset, .unset, .unset, .unset, .unset, .unset, .unset, .unset, .unset] [(.int z)])) hv2) ?_
    show Steps p.tables e below (T0.setTop (mkF m 12 #[.val (.int i0), .val (.int i1), .val (.int i2), .val (.int i3), .val (.int i4), .val (.int i5), .val (.int v1), .unset, .unset, .unset, .unset, .unset, .unset, .unset, .unset, .unset] [(.int v2)])) _
    refine XS.istore X0.here hx rfl (hb hby at_12) rfl (l' := #[.val (.int i0), .val (.int i1), .val (.int i2), .val (.int i3), .val (.int i4), .val (.int i5), .val (.int v1), .val (.int v2), .unset, .unset, .unset, .unset, .unset, .unset, .unset, .unset]) rfl ?_
    show Steps p.tables e below (T0.setTop (mkF m 14 #[.val (.int i0), .val (.int i1), .val (.int i2), .val (.int i3), .val (.int i4), .val (.int i5), .val (.int v1), .val (.int v2), .unset, .unset, .unset, .unset, .unset, .unset, .unset, .unset] [])) _
    refine XS.iloadN X0.here hx rfl (hb hby at_14) rfl ?_
    show Steps p.tables e below (T0.setTop (mkF m 15 #[.val (.int i0), .val (.int i1), .val (.int i2), .val (.int i3), .val (.int i4), .val (.int i5), .val (.int v1), .val (.int v2), .unset, .unset, .unset, .unset, .unset, .unset, .unset, .unset] [(.int i2)])) _
    refine XS.sipush X0.here hx rfl (hb hby at_15) ?_
    show Steps p.tables e below (T0.setTop (mkF m 18 #[.val (.int i0), .val (.int i1), .val (.int i2), .val (.int i3), .val (.int i4), .val (.int i5), .val (.int v1), .val (.int v2), .unset, .unset, .unset, .unset, .unset, .unset, .unset, .unset] [(.int (255 : Int32)), (.int i2)])) _
    refine XS.iand X0.here hx rfl (hb hby at_18) rfl ?_
    show Steps p.tables e below (T0.setTop (mkF m 19 #[.val (.int i0), .val (.int i1), .val (.int i2), .val (.int i3), .val (.int i4), .val (.int i5), .val (.int v1), .val (.int v2), .unset, .unset, .unset, .unset, .unset, .unset, .unset, .unset] [(.int (i2 &&& (255 : Int32)))])) _
    refine own_to (congrArg (fun z => T0.setTop (mkF m 19 #[.val (.int i0), .val (.int i1), .val (.int i2), .val (.int i3), .val (.int i4), .val (.int i5), .val (.int v1), .val (.int v2), .unset, .unset, .unset, .unset, .unset, .unset, .unset, .unset] [(.int z)])) hv3) ?_
    show Steps p.tables e below (T0.setTop (mkF m 19 #[.val (.int i0), .val (.int i1), .val (.int i2), .val (.int i3), .val (.int i4), .val (.int i5), .val (.int v1), .val (.int v2), .unset, .unset, .unset, .unset, .unset, .unset, .unset, .unset] [(.int v3)])) _
    refine XS.istore X0.here hx rfl (hb hby at_19) rfl (l' := #[.val (.int i0), .val (.int i1), .val (.int i2), .val (.int i3), .val (.int i4), .val (.int i5), .val (.int v1), .val (.int v2), .val (.int v3), .unset, .unset, .unset, .unset, .unset, .unset, .unset]) rfl ?_
    show Steps p.tables e below (T0.setTop (mkF m 21 #[.val (.int i0), .val (.int i1), .val (.int i2), .val (.int i3), .val (.int i4), .val (.int i5), .val (.int v1), .val (.int v2), .val (.int v3), .unset, .unset, .unset, .unset, .unset, .unset, .unset] [])) _
    refine XS.iloadN X0.here hx rfl (hb hby at_21) rfl ?_
    show Steps p.tables e below (T0.setTop (mkF m 22 #[.val (.int i0), .val (.int i1), .val (.int i2), .val (.int i3), .val (.int i4), .val (.int i5), .val (.int v1), .val (.int v2), .val (.int v3), .unset, .unset, .unset, .unset, .unset, .unset, .unset] [(.int i3)])) _
    refine XS.sipush X0.here hx rfl (hb hby at_22) ?_
    show Steps p.tables e below (T0.setTop (mkF m 25 #[.val (.int i0), .val (.int i1), .val (.int i2), .val (.int i3), .val (.int i4), .val (.int i5), .val (.int v1), .val (.int v2), .val (.int v3), .unset, .unset, .unset, .unset, .unset, .unset, .unset] [(.int (255 : Int32)), (.int i3)])) _
    refine XS.iand X0.here hx rfl (hb hby at_25) rfl ?_
    show Steps p.tables e below (T0.setTop (mkF m 26 #[.val (.int i0), .val (.int i1), .val (.int i2), .val (.int i3), .val (.int i4), .val (.int i5), .val (.int v1), .val (.int v2), .val (.int v3), .unset, .unset, .unset, .unset, .unset, .unset, .unset] [(.int (i3 &&& (255 : Int32)))])) _
    refine own_to (congrArg (fun z => T0.setTop (mkF m 26 #[.val (.int i0), .val (.int i1), .val (.int i2), .val (.int i3), .val (.int i4), .val (.int i5), .val (.int v1), .val (.int v2), .val (.int v3), .unset, .unset, .unset, .unset, .unset, .unset, .unset] [(.int z)])) hv4) ?_
    show Steps p.tables e below (T0.setTop (mkF m 26 #[.val (.int i0), .val (.int i1), .val (.int i2), .val (.int i3), .val (.int i4), .val (.int i5), .val (.int v1), .val (.int v2), .val (.int v3), .unset, .unset, .unset, .unset, .unset, .unset, .unset] [(.int v4)])) _
    refine XS.istore X0.here hx rfl (hb hby at_26) rfl (l' := #[.val (.int i0), .val (.int i1), .val (.int i2), .val (.int i3), .val (.int i4), .val (.int i5), .val (.int v1), .val (.int v2), .val (.int v3), .val (.int v4), .unset, .unset, .unset, .unset, .unset, .unset]) rfl ?_
    show Steps p.tables e below (T0.setTop (mkF m 28 #[.val (.int i0), .val (.int i1), .val (.int i2), .val (.int i3), .val (.int i4), .val (.int i5), .val (.int v1), .val (.int v2), .val (.int v3), .val (.int v4), .unset, .unset, .unset, .unset, .unset, .unset] [])) _
    refine XS.iload X0.here hx rfl (hb hby at_28) rfl ?_
    show Steps p.tables e below (T0.setTop (mkF m 30 #[.val (.int i0), .val (.int i1), .val (.int i2), .val (.int i3), .val (.int i4), .val (.int i5), .val (.int v1), .val (.int v2), .val (.int v3), .val (.int v4), .unset, .unset, .unset, .unset, .unset, .unset] [(.int i4)])) _
    refine X0.ldcInt hx hown (mvT hZ (hw _ (List.mem_of_getElem? (i := 0) rfl))) (g := (mkF m 30 #[.val (.int i0), .val (.int i1), .val (.int i2), .val (.int i3), .val (.int i4), .val (.int i5), .val (.int v1), .val (.int v2), .val (.int v3), .val (.int v4), .unset, .unset, .unset, .unset, .unset, .unset] [(.int i4)])) rfl (hb hby at_30) _ ?_
    show Steps p.tables e below (T0.setTop (mkF m 32 #[.val (.int i0), .val (.int i1), .val (.int i2), .val (.int i3), .val (.int i4), .val (.int i5), .val (.int v1), .val (.int v2), .val (.int v3), .val (.int v4), .unset, .unset, .unset, .unset, .unset, .unset] [(.int (2147483647 : Int32)), (.int i4)])) _
    refine XS.iand X0.here hx rfl (hb hby at_32) rfl ?_
    show Steps p.tables e below (T0.setTop (mkF m 33 #[.val (.int i0), .val (.int i1), .val (.int i2), .val (.int i3), .val (.int i4), .val (.int i5), .val (.int v1), .val (.int v2), .val (.int v3), .val (.int v4), .unset, .unset, .unset, .unset, .unset, .unset] [(.int (i4 &&& (2147483647 : Int32)))])) _
    refine X0.ldcInt hx hown (mvT hZ (hw _ (List.mem_of_getElem? (i := 1) rfl))) (g := (mkF m 33 #[.val (.int i0), .val (.int i1), .val (.int i2), .val (.int i3), .val (.int i4), .val (.int i5), .val (.int v1), .val (.int v2), .val (.int v3), .val (.int v4), .unset, .unset, .unset, .unset, .unset, .unset] [(.int (i4 &&& (2147483647 : Int32)))])) rfl (hb hby at_33) _ ?_
    show Steps p.tables e below (T0.setTop (mkF m 35 #[.val (.int i0), .val (.int i1), .val (.int i2), .val (.int i3), .val (.int i4), .val (.int i5), .val (.int v1), .val (.int v2), .val (.int v3), .val (.int v4), .unset, .unset, .unset, .unset, .unset, .unset] [(.int (65537 : Int32)), (.int (i4 &&& (2147483647 : Int32)))])) _
    refine iremM X0 hx rfl (hb hby at_35) rfl (by decide) ?_
    show Steps p.tables e below (T0.setTop (mkF m 36 #[.val (.int i0), .val (.int i1), .val (.int i2), .val (.int i3), .val (.int i4), .val (.int i5), .val (.int v1), .val (.int v2), .val (.int v3), .val (.int v4), .unset, .unset, .unset, .unset, .unset, .unset] [(.int ((i4 &&& (2147483647 : Int32)) % (65537 : Int32)))])) _
    refine own_to (congrArg (fun z => T0.setTop (mkF m 36 #[.val (.int i0), .val (.int i1), .val (.int i2), .val (.int i3), .val (.int i4), .val (.int i5), .val (.int v1), .val (.int v2), .val (.int v3), .val (.int v4), .unset, .unset, .unset, .unset, .unset, .unset] [(.int z)])) hv5) ?_
    show Steps p.tables e below (T0.setTop (mkF m 36 #[.val (.int i0), .val (.int i1), .val (.int i2), .val (.int i3), .val (.int i4), .val (.int i5), .val (.int v1), .val (.int v2), .val (.int v3), .val (.int v4), .unset, .unset, .unset, .unset, .unset, .unset] [(.int v5)])) _
    refine XS.istore X0.here hx rfl (hb hby at_36) rfl (l' := #[.val (.int i0), .val (.int i1), .val (.int i2), .val (.int i3), .val (.int i4), .val (.int i5), .val (.int v1), .val (.int v2), .val (.int v3), .val (.int v4), .val (.int v5), .unset, .unset, .unset, .unset, .unset]) rfl ?_
    show Steps p.tables e below (T0.setTop (mkF m 38 #[.val (.int i0), .val (.int i1), .val (.int i2), .val (.int i3), .val (.int i4), .val (.int i5), .val (.int v1), .val (.int v2), .val (.int v3), .val (.int v4), .val (.int v5), .unset, .unset, .unset, .unset, .unset] [])) _
    refine XS.iconst X0.here hx rfl (hb hby at_38) ?_
    show Steps p.tables e below (T0.setTop (mkF m 39 #[.val (.int i0), .val (.int i1), .val (.int i2), .val (.int i3), .val (.int i4), .val (.int i5), .val (.int v1), .val (.int v2), .val (.int v3), .val (.int v4), .val (.int v5), .unset, .unset, .unset, .unset, .unset] [(.int (0 : Int32))])) _
    refine st6 _ ?_
    show Steps p.tables e below (T6.setTop (mkF m 41 #[.val (.int i0), .val (.int i1), .val (.int i2), .val (.int i3), .val (.int i4), .val (.int i5), .val (.int v1), .val (.int v2), .val (.int v3), .val (.int v4), .val (.int v5), .unset, .unset, .unset, .unset, .unset] [(.ref (n0 + a6))])) _
    refine XS.astore X6.here hx rfl (hb hby at_41) rfl rfl (l' := #[.val (.int i0), .val (.int i1), .val (.int i2), .val (.int i3), .val (.int i4), .val (.int i5), .val (.int v1), .val (.int v2), .val (.int v3), .val (.int v4), .val (.int v5), .val (.ref (n0 + a6)), .unset, .unset, .unset, .unset]) rfl ?_
    show Steps p.tables e below (T6.setTop (mkF m 43 #[.val (.int i0), .val (.int i1), .val (.int i2), .val (.int i3), .val (.int i4), .val (.int i5), .val (.int v1), .val (.int v2), .val (.int v3), .val (.int v4), .val (.int v5), .val (.ref (n0 + a6)), .unset, .unset, .unset, .unset] [])) _
    refine XS.iconst X6.here hx rfl (hb hby at_43) ?_
    show Steps p.tables e below (T6.setTop (mkF m 44 #[.val (.int i0), .val (.int i1), .val (.int i2), .val (.int i3), .val (.int i4), .val (.int i5), .val (.int v1), .val (.int v2), .val (.int v3), .val (.int v4), .val (.int v5), .val (.ref (n0 + a6)), .unset, .unset, .unset, .unset] [(.int (1 : Int32))])) _
    refine st7 _ ?_
    show Steps p.tables e below (T7.setTop (mkF m 46 #[.val (.int i0), .val (.int i1), .val (.int i2), .val (.int i3), .val (.int i4), .val (.int i5), .val (.int v1), .val (.int v2), .val (.int v3), .val (.int v4), .val (.int v5), .val (.ref (n0 + a6)), .unset, .unset, .unset, .unset] [(.ref (n0 + a7))])) _
    refine XS.astore X7.here hx rfl (hb hby at_46) rfl rfl (l' := #[.val (.int i0), .val (.int i1), .val (.int i2), .val (.int i3), .val (.int i4), .val (.int i5), .val (.int v1), .val (.int v2), .val (.int v3), .val (.int v4), .val (.int v5), .val (.ref (n0 + a6)), .val (.ref (n0 + a7)), .unset, .unset, .unset]) rfl ?_
    show Steps p.tables e below (T7.setTop (mkF m 48 #[.val (.int i0), .val (.int i1), .val (.int i2), .val (.int i3), .val (.int i4), .val (.int i5), .val (.int v1), .val (.int v2), .val (.int v3), .val (.int v4), .val (.int v5), .val (.ref (n0 + a6)), .val (.ref (n0 + a7)), .unset, .unset, .unset] [])) _
    refine XS.aload X7.here hx rfl (hb hby at_48) rfl rfl ?_
    show Steps p.tables e below (T7.setTop (mkF m 50 #[.val (.int i0), .val (.int i1), .val (.int i2), .val (.int i3), .val (.int i4), .val (.int i5), .val (.int v1), .val (.int v2), .val (.int v3), .val (.int v4), .val (.int v5), .val (.ref (n0 + a6)), .val (.ref (n0 + a7)), .unset, .unset, .unset] [(.ref (n0 + a7))])) _
    refine XS.iconst X7.here hx rfl (hb hby at_50) ?_
    show Steps p.tables e below (T7.setTop (mkF m 51 #[.val (.int i0), .val (.int i1), .val (.int i2), .val (.int i3), .val (.int i4), .val (.int i5), .val (.int v1), .val (.int v2), .val (.int v3), .val (.int v4), .val (.int v5), .val (.ref (n0 + a6)), .val (.ref (n0 + a7)), .unset, .unset, .unset] [(.int (0 : Int32)), (.ref (n0 + a7))])) _
    refine XS.iload X7.here hx rfl (hb hby at_51) rfl ?_
    show Steps p.tables e below (T7.setTop (mkF m 53 #[.val (.int i0), .val (.int i1), .val (.int i2), .val (.int i3), .val (.int i4), .val (.int i5), .val (.int v1), .val (.int v2), .val (.int v3), .val (.int v4), .val (.int v5), .val (.ref (n0 + a6)), .val (.ref (n0 + a7)), .unset, .unset, .unset] [(.int i5), (.int (0 : Int32)), (.ref (n0 + a7))])) _
    refine XS.iconst X7.here hx rfl (hb hby at_53) ?_
    show Steps p.tables e below (T7.setTop (mkF m 54 #[.val (.int i0), .val (.int i1), .val (.int i2), .val (.int i3), .val (.int i4), .val (.int i5), .val (.int v1), .val (.int v2), .val (.int v3), .val (.int v4), .val (.int v5), .val (.ref (n0 + a6)), .val (.ref (n0 + a7)), .unset, .unset, .unset] [(.int (1 : Int32)), (.int i5), (.int (0 : Int32)), (.ref (n0 + a7))])) _
    refine XS.ishr X7.here hx rfl (hb hby at_54) rfl ?_
    show Steps p.tables e below (T7.setTop (mkF m 55 #[.val (.int i0), .val (.int i1), .val (.int i2), .val (.int i3), .val (.int i4), .val (.int i5), .val (.int v1), .val (.int v2), .val (.int v3), .val (.int v4), .val (.int v5), .val (.ref (n0 + a6)), .val (.ref (n0 + a7)), .unset, .unset, .unset] [(.int (i5 >>> ((1 : Int32) &&& 31))), (.int (0 : Int32)), (.ref (n0 + a7))])) _
    refine XS.i2b X7.here hx rfl (hb hby at_55) rfl ?_
    show Steps p.tables e below (T7.setTop (mkF m 56 #[.val (.int i0), .val (.int i1), .val (.int i2), .val (.int i3), .val (.int i4), .val (.int i5), .val (.int v1), .val (.int v2), .val (.int v3), .val (.int v4), .val (.int v5), .val (.ref (n0 + a6)), .val (.ref (n0 + a7)), .unset, .unset, .unset] [(.int ((i5 >>> ((1 : Int32) &&& 31)).toInt8.toInt32)), (.int (0 : Int32)), (.ref (n0 + a7))])) _
    refine st8 _ ?_
    show Steps p.tables e below (T8.setTop (mkF m 57 #[.val (.int i0), .val (.int i1), .val (.int i2), .val (.int i3), .val (.int i4), .val (.int i5), .val (.int v1), .val (.int v2), .val (.int v3), .val (.int v4), .val (.int v5), .val (.ref (n0 + a6)), .val (.ref (n0 + a7)), .unset, .unset, .unset] [])) _
    refine XS.iload X8.here hx rfl (hb hby at_57) rfl ?_
    show Steps p.tables e below (T8.setTop (mkF m 59 #[.val (.int i0), .val (.int i1), .val (.int i2), .val (.int i3), .val (.int i4), .val (.int i5), .val (.int v1), .val (.int v2), .val (.int v3), .val (.int v4), .val (.int v5), .val (.ref (n0 + a6)), .val (.ref (n0 + a7)), .unset, .unset, .unset] [(.int i5)])) _
    refine XS.iconst X8.here hx rfl (hb hby at_59) ?_
    show Steps p.tables e below (T8.setTop (mkF m 60 #[.val (.int i0), .val (.int i1), .val (.int i2), .val (.int i3), .val (.int i4), .val (.int i5), .val (.int v1), .val (.int v2), .val (.int v3), .val (.int v4), .val (.int v5), .val (.ref (n0 + a6)), .val (.ref (n0 + a7)), .unset, .unset, .unset] [(.int (1 : Int32)), (.int i5)])) _
    refine XS.iand X8.here hx rfl (hb hby at_60) rfl ?_
    exact k
  by_cases hc9 : (i5 &&& (1 : Int32)) = (0 : Int32)
  · rw [if_pos hc9] at hf
    refine GlW.on (B := T8.setTop (mkF m 71 #[.val (.int i0), .val (.int i1), .val (.int i2), .val (.int i3), .val (.int i4), .val (.int i5), .val (.int v1), .val (.int v2), .val (.int v3), .val (.int v4), .val (.int v5), .val (.ref (n0 + a6)), .val (.ref (n0 + a7)), .unset, .unset, .unset] [(.ref (n0 + a6))])) (fun t k => ?_) ?_
    · show Steps p.tables e below (T8.setTop (mkF m 61 #[.val (.int i0), .val (.int i1), .val (.int i2), .val (.int i3), .val (.int i4), .val (.int i5), .val (.int v1), .val (.int v2), .val (.int v3), .val (.int v4), .val (.int v5), .val (.ref (n0 + a6)), .val (.ref (n0 + a7)), .unset, .unset, .unset] [(.int (i5 &&& (1 : Int32)))])) _
      refine XS.ifYes X8.here hx rfl (pc0 := 61) (pc' := 69) rfl (hb hby at_61) rfl ((if0 _ _).trans (teq hc9).1) (by decide) (by decide) ?_
      show Steps p.tables e below (T8.setTop (mkF m 69 #[.val (.int i0), .val (.int i1), .val (.int i2), .val (.int i3), .val (.int i4), .val (.int i5), .val (.int v1), .val (.int v2), .val (.int v3), .val (.int v4), .val (.int v5), .val (.ref (n0 + a6)), .val (.ref (n0 + a7)), .unset, .unset, .unset] [])) _
      refine XS.aload X8.here hx rfl (hb hby at_69) rfl rfl ?_
      exact k
    exact bt0_71 hw hC X8 e8 O8 N8 hS (Nat.le_trans (Nat.le_trans (Nat.le_trans hk z6) z7) z8) (by omega) (by omega) hf
  · rw [if_neg hc9] at hf
    refine GlW.on (B := T8.setTop (mkF m 71 #[.val (.int i0), .val (.int i1), .val (.int i2), .val (.int i3), .val (.int i4), .val (.int i5), .val (.int v1), .val (.int v2), .val (.int v3), .val (.int v4), .val (.int v5), .val (.ref (n0 + a6)), .val (.ref (n0 + a7)), .unset, .unset, .unset] [(.ref (n0 + a7))])) (fun t k => ?_) ?_
    · show Steps p.tables e below (T8.setTop (mkF m 61 #[.val (.int i0), .val (.int i1), .val (.int i2), .val (.int i3), .val (.int i4), .val (.int i5), .val (.int v1), .val (.int v2), .val (.int v3), .val (.int v4), .val (.int v5), .val (.ref (n0 + a6)), .val (.ref (n0 + a7)), .unset, .unset, .unset] [(.int (i5 &&& (1 : Int32)))])) _
      refine XS.ifNo X8.here hx rfl (hb hby at_61) rfl ((if0 _ _).trans (feq hc9).1) ?_
      show Steps p.tables e below (T8.setTop (mkF m 64 #[.val (.int i0), .val (.int i1), .val (.int i2), .val (.int i3), .val (.int i4), .val (.int i5), .val (.int v1), .val (.int v2), .val (.int v3), .val (.int v4), .val (.int v5), .val (.ref (n0 + a6)), .val (.ref (n0 + a7)), .unset, .unset, .unset] [])) _
      refine XS.aload X8.here hx rfl (hb hby at_64) rfl rfl ?_
      show Steps p.tables e below (T8.setTop (mkF m 66 #[.val (.int i0), .val (.int i1), .val (.int i2), .val (.int i3), .val (.int i4), .val (.int i5), .val (.int v1), .val (.int v2), .val (.int v3), .val (.int v4), .val (.int v5), .val (.ref (n0 + a6)), .val (.ref (n0 + a7)), .unset, .unset, .unset] [(.ref (n0 + a7))])) _
      refine XS.goto X8.here hx rfl (pc0 := 66) (pc' := 71) rfl (hb hby at_66) (by decide) (by decide) ?_
      exact k
    exact bt0_71 hw hC X8 e8 O8 N8 hS (Nat.le_trans (Nat.le_trans (Nat.le_trans hk z6) z7) z8) (by omega) (by omega) hf
theorem own_fin (x : Int32) (n : Nat) (h0 : 0 ≤ x.toInt) (h1 : x.toInt < n) : ∃ p : Fin n, x = p.1.toInt32 :=
  ⟨⟨x.toNatClampNeg, by simp only [Int32.toNatClampNeg]; omega⟩, (back32 (by rw [Int32.lt_iff_toInt_lt]; have : (0 : Int32).toInt = 0 := rfl; omega)).1.symm⟩
theorem own_modr (x n : Int32) (hn : 0 < n.toInt) : 0 ≤ ((x &&& (2147483647 : Int32)) % n).toInt ∧ ((x &&& (2147483647 : Int32)) % n).toInt < n.toInt := by
  have e1 := c_and x (2147483647 : Int32) (by decide)
  have e2 := (c_irem (x &&& (2147483647 : Int32)) n n.toInt rfl).1 e1.1
  rw [e2]
  exact ⟨Int.emod_nonneg _ (by omega), Int.emod_lt_of_pos _ hn⟩
theorem own_mm (x n : Int32) (hn : 0 < n.toInt) : ((((x &&& (2147483647 : Int32)) % n) &&& (2147483647 : Int32)) % n) = ((x &&& (2147483647 : Int32)) % n) := by
  obtain ⟨h1, h2⟩ := own_modr x n hn
  have e0 : ((2 ^ 31 : Nat) : Int) = 2147483648 := by decide
  have u := Int32.toInt_lt ((x &&& (2147483647 : Int32)) % n)
  have e1 : (((x &&& (2147483647 : Int32)) % n) &&& (2147483647 : Int32)).toInt = ((x &&& (2147483647 : Int32)) % n).toInt := by
    rw [c_mask _ 2147483647 31 (by decide) (by decide), e0]; omega
  have e2 : (((x &&& (2147483647 : Int32)) % n) &&& (2147483647 : Int32)) = ((x &&& (2147483647 : Int32)) % n) := Int32.toInt_inj.mp e1
  rw [e2]
  apply Int32.toInt_inj.mp
  rw [(c_irem _ n n.toInt rfl).1 h1]
  exact Int.emod_eq_of_lt h1 h2
theorem own_ex {α : Type} {o : Option (Int32 × α)} (h : o.map Prod.fst = some (1 : Int32)) : ∃ D', o = some ((1 : Int32), D') := by
  cases o with
  | none => cases h
  | some q => obtain ⟨x, D⟩ := q; exact ⟨D, by cases h; rfl⟩
theorem own_letU {α β : Type} {a : α} {f : α → β} : own_let a f = f a := rfl
theorem own_letV {α β : Type} {a b : α} (h : a = b) {f : α → β} : own_let a f = f b := by rw [h]; rfl
theorem own_bs {α β : Type} {o : Option α} {a : α} (h : o = some a) {f : α → Option β} : o.bind f = f a := by rw [h]; rfl
theorem own_letP1 {α β γ : Type} {a : α} {b : β} {f : α → γ} : own_let (a, b).1 f = f a := rfl
theorem own_letP2 {α β γ : Type} {a : α} {b : β} {f : β → γ} : own_let (a, b).2 f = f b := rfl
theorem own_lo {x : Int32} (h : 0 ≤ x.toInt) : ¬ x < (0 : Int32) := by
  rw [Int32.lt_iff_toInt_lt]; have e : (0 : Int32).toInt = 0 := rfl; omega
theorem own_hi {x k : Int32} {z : Int} (hz : k.toInt = z) (h : x.toInt ≤ z) : ¬ k < x := by
  rw [Int32.lt_iff_toInt_lt]; omega
theorem own_b255 (x : Int32) : 0 ≤ (x &&& (255 : Int32)).toInt ∧ (x &&& (255 : Int32)).toInt ≤ 255 := by
  have e := c_and x (255 : Int32) (by decide)
  have e7 : (255 : Int32).toInt = 255 := rfl
  omega
theorem own_bne (x : Int32) : 0 ≤ ((x &&& (2147483647 : Int32)) % (65537 : Int32)).toInt ∧ ((x &&& (2147483647 : Int32)) % (65537 : Int32)).toInt ≤ 65536 := by
  have e := own_modr x 65537 (by decide)
  have e7 : (65537 : Int32).toInt = 65537 := rfl
  omega
theorem own_254 : ∀ p : Fin 256, (p.1.toInt32 &&& (254 : Int32) = (176 : Int32)) ↔ (p.1.toInt32 = (176 : Int32) ∨ p.1.toInt32 = (177 : Int32)) := by decide +kernel
theorem own_255 (x : Int32) (h : 0 ≤ x.toInt ∧ x.toInt ≤ 255) : (x &&& (254 : Int32) = (176 : Int32)) ↔ (x = (176 : Int32) ∨ x = (177 : Int32)) := by
  obtain ⟨p, hp⟩ := own_fin x 256 h.1 (by omega)
  rw [hp]; exact own_254 p
theorem own_f5t (D : Hp) (x : Int32) (hD : gI D 2 1 1 = some x) (h : 0 ≤ x.toInt ∧ x.toInt ≤ 255) (g : x &&& (254 : Int32) = (176 : Int32)) : f5 D 2 = some ((1 : Int32), D) := by
  rw [f5, own_bs hD]
  rcases (own_255 x h).mp g with q | q
  · rw [if_pos q]
  · by_cases u : x = (176 : Int32)
    · rw [if_pos u]
    · rw [if_neg u, own_bs hD, if_pos q]
theorem own_f5f (D : Hp) (x : Int32) (hD : gI D 2 1 1 = some x) (h : 0 ≤ x.toInt ∧ x.toInt ≤ 255) (g : ¬ x &&& (254 : Int32) = (176 : Int32)) : f5 D 2 = some ((0 : Int32), D) := by
  have q := mt (own_255 x h).mpr g
  rw [f5, own_bs hD, if_neg (fun u => q (Or.inl u)), own_bs hD, if_neg (fun u => q (Or.inr u))]
def oH0 (b : Int32) : Hp := [(0, []), (0, [.int b])]
def oO1  : List Value := [.int (0 : Int32), .int (0 : Int32), .int (0 : Int32), .int (0 : Int32), .int (0 : Int32)]
def oH2 (b : Int32) : Hp := [(0, []), (0, [.int b]), (1, oO1)]
def oH3 (b : Int32) : Hp := [(0, []), (0, [.int b]), (1, oO1), (98, [])]
def oH4 (b : Int32) : Hp := [(0, []), (0, [.int b]), (1, oO1), (98, []), (98, [])]
def oH5 (b : Int32) : Hp := [(0, []), (0, [.int b]), (1, oO1), (98, []), (98, []), (98, [])]
def oH6 (b : Int32) : Hp := [(0, []), (0, [.int b]), (1, oO1), (98, []), (98, []), (98, []), (98, [])]
def oO7 (g0 : Int32) : List Value := [.int g0, .int (0 : Int32), .int (0 : Int32), .int (0 : Int32), .int (0 : Int32)]
def oH8 (g0 b : Int32) : Hp := [(0, []), (0, [.int b]), (1, (oO7 g0)), (98, []), (98, []), (98, []), (98, [])]
def oO9 (g0 g1 : Int32) : List Value := [.int g0, .int g1, .int (0 : Int32), .int (0 : Int32), .int (0 : Int32)]
def oH10 (g0 g1 b : Int32) : Hp := [(0, []), (0, [.int b]), (1, (oO9 g0 g1)), (98, []), (98, []), (98, []), (98, [])]
def oH11 (g0 g1 g2 b : Int32) : Hp := [(0, []), (0, [.int b]), (1, [.int g0, .int g1, .int g2, .int (0 : Int32), .int (0 : Int32)]), (98, []), (98, []), (98, []), (98, [])]
def oH12 (g0 g1 g2 g3 b : Int32) : Hp := [(0, []), (0, [.int b]), (1, [.int g0, .int g1, .int g2, .int g3, .int (0 : Int32)]), (98, []), (98, []), (98, []), (98, [])]
def oH13 (g0 g1 g2 g3 b : Int32) : Hp := [(0, []), (0, [.int b]), (1, [.int g0, .int g1, .int g2, .int g3, .int (0 : Int32)]), (98, []), (98, []), (98, []), (98, []), (98, [])]
def oH14 (g0 g1 g2 g3 g4 b : Int32) : Hp := [(0, []), (0, [.int b]), (1, [.int g0, .int g1, .int g2, .int g3, .int g4]), (98, []), (98, []), (98, []), (98, []), (98, [])]
def oH16  : Hp := [(0, [])]
def oH17  : Hp := [(0, []), (0, [.int (0 : Int32)])]
set_option maxRecDepth 20000 in
set_option maxHeartbeats 4000000 in
theorem own_b0 (g0 g1 g2 g3 g4 b : Int32) (hg0 : 0 ≤ g0.toInt ∧ g0.toInt ≤ 255) (hg1 : 0 ≤ g1.toInt ∧ g1.toInt ≤ 255) (hg2 : 0 ≤ g2.toInt ∧ g2.toInt ≤ 255) (hg3 : 0 ≤ g3.toInt ∧ g3.toInt ≤ 255) (hg4 : 0 ≤ g4.toInt ∧ g4.toInt ≤ 65536) : ∃ D', b0_71 (oH0 b) g0 g1 g2 g3 g4 0 = some ((1 : Int32), D') := by
  rw [b0_71]
  rw [own_bs (show nm (oH0 b) = some 0 from rfl)]
  rw [own_letV (show List.length (oH0 b) = 2 from rfl)]
  rw [own_letV (show (oH0 b) ++ ([(1, [.int (0 : Int32), .int (0 : Int32), .int (0 : Int32), .int (0 : Int32), .int (0 : Int32)])] : Hp) = (oH2 b) from rfl)]
  rw [f1]
  rw [own_bs (show lA (oH2 b) 0 0 = some (0 : Int32) from rfl)]
  rw [if_neg (by decide : ¬ ((255 : Int32) < (0 : Int32)))]
  by_cases hc1 : (256 : Int32) < g4
  · rw [if_pos hc1]
    rw [f2]
    rw [own_letV (show (oH2 b) ++ ([(98, [])] : Hp) = (oH3 b) from rfl)]
    rw [f4]
    rw [if_neg (own_lo hg0.1)]
    rw [if_neg (own_hi (k := (255 : Int32)) (z := 255) rfl hg0.2)]
    rw [Option.bind_some]
    rw [own_letV (show (oH3 b) ++ ([(98, [])] : Hp) = (oH4 b) from rfl)]
    rw [f4]
    rw [if_neg (own_lo hg1.1)]
    rw [if_neg (own_hi (k := (255 : Int32)) (z := 255) rfl hg1.2)]
    rw [Option.bind_some]
    rw [own_letV (show (oH4 b) ++ ([(98, [])] : Hp) = (oH5 b) from rfl)]
    rw [f4]
    rw [if_neg (own_lo hg2.1)]
    rw [if_neg (own_hi (k := (255 : Int32)) (z := 255) rfl hg2.2)]
    rw [Option.bind_some]
    rw [own_letV (show (oH5 b) ++ ([(98, [])] : Hp) = (oH6 b) from rfl)]
    rw [f4]
    rw [if_neg (own_lo hg3.1)]
    rw [if_neg (own_hi (k := (255 : Int32)) (z := 255) rfl hg3.2)]
    rw [Option.bind_some]
    rw [own_bs (show lA (oH6 b) 0 0 = some (0 : Int32) from rfl)]
    rw [if_neg (by decide : ¬ ((65535 : Int32) < (0 : Int32)))]
    rw [if_neg (own_lo hg4.1)]
    rw [if_neg (own_hi (k := (65536 : Int32)) (z := 65536) rfl hg4.2)]
    rw [own_bs (show pV (oH6 b) 2 1 0 (.int g0) = some (oH8 g0 b) from rfl)]
    rw [own_bs (show pV (oH8 g0 b) 2 1 1 (.int g1) = some (oH10 g0 g1 b) from rfl)]
    rw [own_bs (show pV (oH10 g0 g1 b) 2 1 2 (.int g2) = some (oH11 g0 g1 g2 b) from rfl)]
    rw [own_bs (show pV (oH11 g0 g1 g2 b) 2 1 3 (.int g3) = some (oH12 g0 g1 g2 g3 b) from rfl)]
    rw [own_bs (show cL (oH12 g0 g1 g2 g3 b) 0 0 8 = some 0 from rfl)]
    rw [own_letV (show (oH12 g0 g1 g2 g3 b) ++ ([(98, [])] : Hp) = (oH13 g0 g1 g2 g3 b) from rfl)]
    rw [own_bs (show ck (oH13 g0 g1 g2 g3 b) 2 1 = some 1 from rfl)]
    rw [own_bs (show pV (oH13 g0 g1 g2 g3 b) 2 1 4 (.int g4) = some (oH14 g0 g1 g2 g3 g4 b) from rfl)]
    rw [own_bs (show ck (oH14 g0 g1 g2 g3 g4 b) 2 1 = some 1 from rfl)]
    rw [Option.bind_some]
    rw [Option.bind_some]
    by_cases hc2 : (g1 &&& (254 : Int32)) = (176 : Int32)
    · rw [if_pos hc2]
      rw [b0_111]
      rw [own_bs (show ck (oH14 g0 g1 g2 g3 g4 b) 2 1 = some 1 from rfl)]
      rw [own_f5t (oH14 g0 g1 g2 g3 g4 b) g1 rfl hg1 hc2]
      rw [Option.bind_some]
      rw [own_letP1]
      rw [own_letP2]
      rw [if_pos (by decide : ((1 : Int32) = (1 : Int32)))]
      exact ⟨_, rfl⟩
    · rw [if_neg hc2]
      rw [b0_111]
      rw [own_bs (show ck (oH14 g0 g1 g2 g3 g4 b) 2 1 = some 1 from rfl)]
      rw [own_f5f (oH14 g0 g1 g2 g3 g4 b) g1 rfl hg1 hc2]
      rw [Option.bind_some]
      rw [own_letP1]
      rw [own_letP2]
      rw [if_pos (by decide : ((0 : Int32) = (0 : Int32)))]
      exact ⟨_, rfl⟩
  · rw [if_neg hc1]
    rw [f2]
    rw [own_letV (show (oH2 b) ++ ([(98, [])] : Hp) = (oH3 b) from rfl)]
    rw [f4]
    rw [if_neg (own_lo hg0.1)]
    rw [if_neg (own_hi (k := (255 : Int32)) (z := 255) rfl hg0.2)]
    rw [Option.bind_some]
    rw [own_letV (show (oH3 b) ++ ([(98, [])] : Hp) = (oH4 b) from rfl)]
    rw [f4]
    rw [if_neg (own_lo hg1.1)]
    rw [if_neg (own_hi (k := (255 : Int32)) (z := 255) rfl hg1.2)]
    rw [Option.bind_some]
    rw [own_letV (show (oH4 b) ++ ([(98, [])] : Hp) = (oH5 b) from rfl)]
    rw [f4]
    rw [if_neg (own_lo hg2.1)]
    rw [if_neg (own_hi (k := (255 : Int32)) (z := 255) rfl hg2.2)]
    rw [Option.bind_some]
    rw [own_letV (show (oH5 b) ++ ([(98, [])] : Hp) = (oH6 b) from rfl)]
    rw [f4]
    rw [if_neg (own_lo hg3.1)]
    rw [if_neg (own_hi (k := (255 : Int32)) (z := 255) rfl hg3.2)]
    rw [Option.bind_some]
    rw [own_bs (show lA (oH6 b) 0 0 = some (0 : Int32) from rfl)]
    rw [if_neg (by decide : ¬ ((65535 : Int32) < (0 : Int32)))]
    rw [if_neg (own_lo hg4.1)]
    rw [if_neg (own_hi (k := (65536 : Int32)) (z := 65536) rfl hg4.2)]
    rw [own_bs (show pV (oH6 b) 2 1 0 (.int g0) = some (oH8 g0 b) from rfl)]
    rw [own_bs (show pV (oH8 g0 b) 2 1 1 (.int g1) = some (oH10 g0 g1 b) from rfl)]
    rw [own_bs (show pV (oH10 g0 g1 b) 2 1 2 (.int g2) = some (oH11 g0 g1 g2 b) from rfl)]
    rw [own_bs (show pV (oH11 g0 g1 g2 b) 2 1 3 (.int g3) = some (oH12 g0 g1 g2 g3 b) from rfl)]
    rw [own_bs (show cL (oH12 g0 g1 g2 g3 b) 0 0 8 = some 0 from rfl)]
    rw [own_letV (show (oH12 g0 g1 g2 g3 b) ++ ([(98, [])] : Hp) = (oH13 g0 g1 g2 g3 b) from rfl)]
    rw [own_bs (show ck (oH13 g0 g1 g2 g3 b) 2 1 = some 1 from rfl)]
    rw [own_bs (show pV (oH13 g0 g1 g2 g3 b) 2 1 4 (.int g4) = some (oH14 g0 g1 g2 g3 g4 b) from rfl)]
    rw [own_bs (show ck (oH14 g0 g1 g2 g3 g4 b) 2 1 = some 1 from rfl)]
    rw [Option.bind_some]
    rw [Option.bind_some]
    by_cases hc3 : (g1 &&& (254 : Int32)) = (176 : Int32)
    · rw [if_pos hc3]
      rw [b0_111]
      rw [own_bs (show ck (oH14 g0 g1 g2 g3 g4 b) 2 1 = some 1 from rfl)]
      rw [own_f5t (oH14 g0 g1 g2 g3 g4 b) g1 rfl hg1 hc3]
      rw [Option.bind_some]
      rw [own_letP1]
      rw [own_letP2]
      rw [if_pos (by decide : ((1 : Int32) = (1 : Int32)))]
      exact ⟨_, rfl⟩
    · rw [if_neg hc3]
      rw [b0_111]
      rw [own_bs (show ck (oH14 g0 g1 g2 g3 g4 b) 2 1 = some 1 from rfl)]
      rw [own_f5f (oH14 g0 g1 g2 g3 g4 b) g1 rfl hg1 hc3]
      rw [Option.bind_some]
      rw [own_letP1]
      rw [own_letP2]
      rw [if_pos (by decide : ((0 : Int32) = (0 : Int32)))]
      exact ⟨_, rfl⟩
set_option maxRecDepth 20000 in
set_option maxHeartbeats 4000000 in
theorem own_b1 (g0 g1 g2 g3 g4 b : Int32) (hg0 : 0 ≤ g0.toInt ∧ g0.toInt ≤ 255) (hg1 : 0 ≤ g1.toInt ∧ g1.toInt ≤ 255) (hg2 : 0 ≤ g2.toInt ∧ g2.toInt ≤ 255) (hg3 : 0 ≤ g3.toInt ∧ g3.toInt ≤ 255) (hg4 : 0 ≤ g4.toInt ∧ g4.toInt ≤ 65536) : ∃ D', b0_71 (oH0 b) g0 g1 g2 g3 g4 1 = some ((1 : Int32), D') := by
  rw [b0_71]
  rw [own_bs (show nm (oH0 b) = some 0 from rfl)]
  rw [own_letV (show List.length (oH0 b) = 2 from rfl)]
  rw [own_letV (show (oH0 b) ++ ([(1, [.int (0 : Int32), .int (0 : Int32), .int (0 : Int32), .int (0 : Int32), .int (0 : Int32)])] : Hp) = (oH2 b) from rfl)]
  rw [f1]
  rw [own_bs (show lA (oH2 b) 1 0 = some (1 : Int32) from rfl)]
  rw [if_neg (by decide : ¬ ((255 : Int32) < (1 : Int32)))]
  by_cases hc4 : (256 : Int32) < g4
  · rw [if_pos hc4]
    rw [f2]
    rw [own_letV (show (oH2 b) ++ ([(98, [])] : Hp) = (oH3 b) from rfl)]
    rw [f4]
    rw [if_neg (own_lo hg0.1)]
    rw [if_neg (own_hi (k := (255 : Int32)) (z := 255) rfl hg0.2)]
    rw [Option.bind_some]
    rw [own_letV (show (oH3 b) ++ ([(98, [])] : Hp) = (oH4 b) from rfl)]
    rw [f4]
    rw [if_neg (own_lo hg1.1)]
    rw [if_neg (own_hi (k := (255 : Int32)) (z := 255) rfl hg1.2)]
    rw [Option.bind_some]
    rw [own_letV (show (oH4 b) ++ ([(98, [])] : Hp) = (oH5 b) from rfl)]
    rw [f4]
    rw [if_neg (own_lo hg2.1)]
    rw [if_neg (own_hi (k := (255 : Int32)) (z := 255) rfl hg2.2)]
    rw [Option.bind_some]
    rw [own_letV (show (oH5 b) ++ ([(98, [])] : Hp) = (oH6 b) from rfl)]
    rw [f4]
    rw [if_neg (own_lo hg3.1)]
    rw [if_neg (own_hi (k := (255 : Int32)) (z := 255) rfl hg3.2)]
    rw [Option.bind_some]
    rw [own_bs (show lA (oH6 b) 1 0 = some (1 : Int32) from rfl)]
    rw [if_neg (by decide : ¬ ((65535 : Int32) < (1 : Int32)))]
    rw [if_neg (own_lo hg4.1)]
    rw [if_neg (own_hi (k := (65536 : Int32)) (z := 65536) rfl hg4.2)]
    rw [own_bs (show pV (oH6 b) 2 1 0 (.int g0) = some (oH8 g0 b) from rfl)]
    rw [own_bs (show pV (oH8 g0 b) 2 1 1 (.int g1) = some (oH10 g0 g1 b) from rfl)]
    rw [own_bs (show pV (oH10 g0 g1 b) 2 1 2 (.int g2) = some (oH11 g0 g1 g2 b) from rfl)]
    rw [own_bs (show pV (oH11 g0 g1 g2 b) 2 1 3 (.int g3) = some (oH12 g0 g1 g2 g3 b) from rfl)]
    rw [own_bs (show cL (oH12 g0 g1 g2 g3 b) 1 0 8 = some 0 from rfl)]
    rw [own_letV (show (oH12 g0 g1 g2 g3 b) ++ ([(98, [])] : Hp) = (oH13 g0 g1 g2 g3 b) from rfl)]
    rw [own_bs (show ck (oH13 g0 g1 g2 g3 b) 2 1 = some 1 from rfl)]
    rw [own_bs (show pV (oH13 g0 g1 g2 g3 b) 2 1 4 (.int g4) = some (oH14 g0 g1 g2 g3 g4 b) from rfl)]
    rw [own_bs (show ck (oH14 g0 g1 g2 g3 g4 b) 2 1 = some 1 from rfl)]
    rw [Option.bind_some]
    rw [Option.bind_some]
    by_cases hc5 : (g1 &&& (254 : Int32)) = (176 : Int32)
    · rw [if_pos hc5]
      rw [b0_111]
      rw [own_bs (show ck (oH14 g0 g1 g2 g3 g4 b) 2 1 = some 1 from rfl)]
      rw [own_f5t (oH14 g0 g1 g2 g3 g4 b) g1 rfl hg1 hc5]
      rw [Option.bind_some]
      rw [own_letP1]
      rw [own_letP2]
      rw [if_pos (by decide : ((1 : Int32) = (1 : Int32)))]
      exact ⟨_, rfl⟩
    · rw [if_neg hc5]
      rw [b0_111]
      rw [own_bs (show ck (oH14 g0 g1 g2 g3 g4 b) 2 1 = some 1 from rfl)]
      rw [own_f5f (oH14 g0 g1 g2 g3 g4 b) g1 rfl hg1 hc5]
      rw [Option.bind_some]
      rw [own_letP1]
      rw [own_letP2]
      rw [if_pos (by decide : ((0 : Int32) = (0 : Int32)))]
      exact ⟨_, rfl⟩
  · rw [if_neg hc4]
    rw [f2]
    rw [own_letV (show (oH2 b) ++ ([(98, [])] : Hp) = (oH3 b) from rfl)]
    rw [f4]
    rw [if_neg (own_lo hg0.1)]
    rw [if_neg (own_hi (k := (255 : Int32)) (z := 255) rfl hg0.2)]
    rw [Option.bind_some]
    rw [own_letV (show (oH3 b) ++ ([(98, [])] : Hp) = (oH4 b) from rfl)]
    rw [f4]
    rw [if_neg (own_lo hg1.1)]
    rw [if_neg (own_hi (k := (255 : Int32)) (z := 255) rfl hg1.2)]
    rw [Option.bind_some]
    rw [own_letV (show (oH4 b) ++ ([(98, [])] : Hp) = (oH5 b) from rfl)]
    rw [f4]
    rw [if_neg (own_lo hg2.1)]
    rw [if_neg (own_hi (k := (255 : Int32)) (z := 255) rfl hg2.2)]
    rw [Option.bind_some]
    rw [own_letV (show (oH5 b) ++ ([(98, [])] : Hp) = (oH6 b) from rfl)]
    rw [f4]
    rw [if_neg (own_lo hg3.1)]
    rw [if_neg (own_hi (k := (255 : Int32)) (z := 255) rfl hg3.2)]
    rw [Option.bind_some]
    rw [own_bs (show lA (oH6 b) 1 0 = some (1 : Int32) from rfl)]
    rw [if_neg (by decide : ¬ ((65535 : Int32) < (1 : Int32)))]
    rw [if_neg (own_lo hg4.1)]
    rw [if_neg (own_hi (k := (65536 : Int32)) (z := 65536) rfl hg4.2)]
    rw [own_bs (show pV (oH6 b) 2 1 0 (.int g0) = some (oH8 g0 b) from rfl)]
    rw [own_bs (show pV (oH8 g0 b) 2 1 1 (.int g1) = some (oH10 g0 g1 b) from rfl)]
    rw [own_bs (show pV (oH10 g0 g1 b) 2 1 2 (.int g2) = some (oH11 g0 g1 g2 b) from rfl)]
    rw [own_bs (show pV (oH11 g0 g1 g2 b) 2 1 3 (.int g3) = some (oH12 g0 g1 g2 g3 b) from rfl)]
    rw [own_bs (show cL (oH12 g0 g1 g2 g3 b) 1 0 8 = some 0 from rfl)]
    rw [own_letV (show (oH12 g0 g1 g2 g3 b) ++ ([(98, [])] : Hp) = (oH13 g0 g1 g2 g3 b) from rfl)]
    rw [own_bs (show ck (oH13 g0 g1 g2 g3 b) 2 1 = some 1 from rfl)]
    rw [own_bs (show pV (oH13 g0 g1 g2 g3 b) 2 1 4 (.int g4) = some (oH14 g0 g1 g2 g3 g4 b) from rfl)]
    rw [own_bs (show ck (oH14 g0 g1 g2 g3 g4 b) 2 1 = some 1 from rfl)]
    rw [Option.bind_some]
    rw [Option.bind_some]
    by_cases hc6 : (g1 &&& (254 : Int32)) = (176 : Int32)
    · rw [if_pos hc6]
      rw [b0_111]
      rw [own_bs (show ck (oH14 g0 g1 g2 g3 g4 b) 2 1 = some 1 from rfl)]
      rw [own_f5t (oH14 g0 g1 g2 g3 g4 b) g1 rfl hg1 hc6]
      rw [Option.bind_some]
      rw [own_letP1]
      rw [own_letP2]
      rw [if_pos (by decide : ((1 : Int32) = (1 : Int32)))]
      exact ⟨_, rfl⟩
    · rw [if_neg hc6]
      rw [b0_111]
      rw [own_bs (show ck (oH14 g0 g1 g2 g3 g4 b) 2 1 = some 1 from rfl)]
      rw [own_f5f (oH14 g0 g1 g2 g3 g4 b) g1 rfl hg1 hc6]
      rw [Option.bind_some]
      rw [own_letP1]
      rw [own_letP2]
      rw [if_pos (by decide : ((0 : Int32) = (0 : Int32)))]
      exact ⟨_, rfl⟩
set_option maxRecDepth 20000 in
set_option maxHeartbeats 4000000 in
theorem law_ok (i0 : Int32) (i1 : Int32) (i2 : Int32) (i3 : Int32) (i4 : Int32) (i5 : Int32) : ∃ D', f0 [] i0 i1 i2 i3 i4 i5 = some ((1 : Int32), D') := by
  rw [f0]
  rw [own_letU]
  have hg0 := own_b255 i0
  generalize i0 &&& (255 : Int32) = g0 at hg0 ⊢
  rw [own_letU]
  have hg1 := own_b255 i1
  generalize i1 &&& (255 : Int32) = g1 at hg1 ⊢
  rw [own_letU]
  have hg2 := own_b255 i2
  generalize i2 &&& (255 : Int32) = g2 at hg2 ⊢
  rw [own_letU]
  have hg3 := own_b255 i3
  generalize i3 &&& (255 : Int32) = g3 at hg3 ⊢
  rw [own_letU]
  have hg4 := own_bne i4
  generalize (i4 &&& (2147483647 : Int32)) % (65537 : Int32) = g4 at hg4 ⊢
  generalize ((i5 >>> ((1 : Int32) &&& 31)).toInt8.toInt32).toInt8.toInt32 = b
  rw [own_bs (show nm ([] : Hp) = some 0 from rfl)]
  rw [own_letV (show List.length ([] : Hp) = 0 from rfl)]
  rw [own_bs (show nA ([] : Hp) 0 (0 : Int32) 0 (.int (0 : Int32)) = some oH16 from rfl)]
  rw [own_bs (show nm oH16 = some 0 from rfl)]
  rw [own_letV (show List.length oH16 = 1 from rfl)]
  rw [own_bs (show nA oH16 0 (1 : Int32) 1 (.int (0 : Int32)) = some oH17 from rfl)]
  rw [own_bs (show wV oH17 1 0 (0 : Int32) (.int b) = some (oH0 b) from rfl)]
  by_cases hc7 : (i5 &&& (1 : Int32)) = (0 : Int32)
  · rw [if_pos hc7]
    exact own_b0 g0 g1 g2 g3 g4 b hg0 hg1 hg2 hg3 hg4
  · rw [if_neg hc7]
    exact own_b1 g0 g1 g2 g3 g4 b hg0 hg1 hg2 hg3 hg4
set_option maxRecDepth 65536 in
set_option maxHeartbeats 40000000 in
theorem comes_1 {Post : Tables → Env → Array Value → State → Outcome → State → Prop} (hpost : ∀ tb e args s v u, (limb_1_1.after args s (.returned v) u = true ∧ limb_1_2.after args s (.returned v) u = true ∧ True) → ReturnedEndW s (.returned v) u (Jvm.fieldLocs frame_1_writes args s ++ Jvm.arrayLocs frame_1_arrays args s ++ Jvm.staticLocs frame_1_statics s) 24 4224 → Post tb e args s (.returned v) u) :
    ArmFor flags0 classFile x code maxLocals ret World_1 tables_1 room_1 Calls_1 rest_1 Pre_1 Post := by
  intro l hfl _ _ p e ha hc hk s m args below hf hA hF happ hP
  obtain ⟨hcalls, hrest, hpre⟩ := hP
  obtain ⟨-, -, -, hnamed, -, -, -, hat⟩ := (Spec.applies_iff hf).mp happ
  obtain ⟨hg, hn⟩ := and_e (Cond.before_iff.mp (show (Jvm.Cond.and given_1 narrow_1).before args s = true from hpre))
  obtain ⟨g0, hg⟩ := and_e hg
  obtain ⟨gg0, hg⟩ := and_e hg
  obtain ⟨gg1, hg⟩ := and_e hg
  obtain ⟨gg2, hg⟩ := and_e hg
  obtain ⟨gg3, hg⟩ := and_e hg
  obtain ⟨gg4, hg⟩ := and_e hg
  have gg5 := hg
  obtain ⟨w0, w1, w2, w3, w4, w5, rfl⟩ : ∃ w0 w1 w2 w3 w4 w5 : Value, args = #[w0, w1, w2, w3, w4, w5] := by
    have hs : args.size = 6 := by simpa [Cond.value, given_1] using g0
    obtain ⟨L⟩ := args
    match L, hs with
    | [w0, w1, w2, w3, w4, w5], _ => exact ⟨w0, w1, w2, w3, w4, w5, rfl⟩
  have hw := fun d (hd : d ∈ tables_1) => atoms_spec (ws := Jvm.Cond.code x code maxLocals ret :: tables_1) hat d (List.mem_cons_of_mem _ hd)
  obtain ⟨i0, ei0⟩ := is_v gg0
  obtain rfl : w0 = (.int i0) := Option.some.inj ei0
  obtain ⟨i1, ei1⟩ := is_v gg1
  obtain rfl : w1 = (.int i1) := Option.some.inj ei1
  obtain ⟨i2, ei2⟩ := is_v gg2
  obtain rfl : w2 = (.int i2) := Option.some.inj ei2
  obtain ⟨i3, ei3⟩ := is_v gg3
  obtain rfl : w3 = (.int i3) := Option.some.inj ei3
  obtain ⟨i4, ei4⟩ := is_v gg4
  obtain rfl : w4 = (.int i4) := Option.some.inj ei4
  obtain ⟨i5, ei5⟩ := is_v gg5
  obtain rfl : w5 = (.int i5) := Option.some.inj ei5
  obtain ⟨D', hlaw⟩ := law_ok i0 i1 i2 i3 i4 i5
  obtain ⟨n, o, h1, h2, h3, _, L, rfl, ⟨rfl, N, -⟩, hq⟩ := ct0 (l := l) hw hlaw s.heap tables_1 (own_ow0 s.heap) p e ha hc hk s m _ below hf ((Spec.applies_iff_loose hf).mp happ).1 ⟨rfl, State.Warmed39.refl s, rfl⟩ trivial
  exact ⟨n, _, h1, h2, h3, hpost _ _ _ _ _ _ ⟨Cond.after_iff.mpr rfl, Cond.after_iff.mpr (eq_i res_at (Term.int_eval (1)) rfl), trivial⟩ ⟨hq.1, hq.2.1, hq.2.2.1, (hq.2.2.2.sift fun y hy => Or.inr (N y hy)).mono (by decide) (by decide)⟩⟩
theorem main_1_1 : Claimed_1_1 := comes_1 fun _ _ _ _ _ _ h hF => ⟨h.1, hF⟩
theorem main_1_2 : Claimed_1_2 := comes_1 fun _ _ _ _ _ _ h hF => ⟨h.2.1, hF⟩
end Jvm.Pilot.@@N@@
namespace Jvm.Pilot.@@N@@
open Jvm Jvm.ClassFile Sem Op Lib Jvm.Free Jvm.Stand Jvm.Pilot.@@N@@.Jvm.D
/-! MADE BY PROGRAM (witnessworld.py) out of the Statement's table words and the real class files: 14 classes; the members and pool entries that the words name. The judged class is class 1, her method 1. -/
namespace start1
open Jvm.ClassFile
def u (s : String) : CpInfo := .utf8 (stringToUtf16 s)
/-- a pool by its gaps: so many unusable entries, then the entry; so many at the end -/
def gap : Nat → List CpInfo → List CpInfo
  | 0, r => r
  | n + 1, r => .unusable :: gap n r
def poolList (es : List (Nat × CpInfo)) (last : Nat) : List CpInfo := es.foldr (fun e r => gap e.1 (e.2 :: r)) (gap last [])
def pool (es : List (Nat × CpInfo)) (last : Nat) : Array CpInfo := ⟨poolList es last⟩
def fileOf (pool : Array CpInfo) (this : Nat) (attrs : Array Attribute := #[]) (ms : Array MethodInfo := #[]) (fl : Nat := 33) (sup : Nat := 0) (ifs : Array Nat := #[]) (fds : Array FieldInfo := #[]) : ClassFile where
  minorVersion := 0
  majorVersion := 65
  constantPool := pool
  accessFlags := fl
  thisClass := this
  superClass := sup
  interfaces := ifs
  fields := fds
  methods := ms
  attributes := attrs
def plain (name : String) (sup : Option ClassId) : Class where
  name := name
  kind := .ordinary
  loader := none
  accessFlags := 33
  super := sup
  interfaces := #[]
  cf := none
  fields := #[]
  methods := #[]
  instanceTypes := #[]
  staticTypes := #[]
  resolved := #[]
  callSites := []
  init := .initialized
  statics := none
  mirror := none

def pool0 : Array CpInfo := pool [(5, u "<init>"), (0, u "()V"), (1, .class_ 10), (1, u "java/lang/Object"), (85, u "clone"), (0, u "()Ljava/lang/Object;")] 26

def k0c0 : Code := { maxStack := 0, maxLocals := 1, code := object_method_1_code, exceptionTable := #[], attributes := #[] }
def k0m0 : Method := { name := "<init>", desc := "()V", sig := { parameters := [], returnType := none }, accessFlags := 1, code := some k0c0 }
def k0m1 : Method := { name := "clone", desc := "()Ljava/lang/Object;", sig := { parameters := [], returnType := some (.object "java/lang/Object") }, accessFlags := 260, code := none }
/-- java/lang/Object -/
def k0 : Class := { plain "java/lang/Object" none with
  accessFlags := 33
  interfaces := #[]
  cf := some (fileOf pool0 8 #[] #[{ accessFlags := 1, nameIndex := 5, descriptorIndex := 6, attributes := #[] }, { accessFlags := 260, nameIndex := 96, descriptorIndex := 97, attributes := #[] }] 33 0 #[] #[])
  fields := #[]
  methods := #[k0m0, k0m1]
  instanceTypes := #[]
  staticTypes := #[]
  resolved := Array.replicate 124 none
  statics := none }

def pool1 : Array CpInfo := pool [(2, .class_ 4), (1, u "java/lang/Object"), (0, u "<init>"), (0, u "()V"), (0, .integer 2147483647), (0, .integer 65537), (0, .class_ 10), (0, u "com/example/eidwerk/eidwerk/card/CommandApdu"), (0, .methodref 9 12), (0, .nameAndType 5 13), (0, u "(IIII[BI)V"), (0, .methodref 9 15), (0, .nameAndType 16 17), (0, u "isReadBinary"), (0, u "()Z"), (0, .class_ 19), (0, u "com/example/eidwerk/eidwerk/card/CommandApduIsReadBinaryPinLaw"), (2, u "law"), (0, u "(IIIIII)Z")] 5

def k1m0 : Method := { name := "<init>", desc := "()V", sig := { parameters := [], returnType := none }, accessFlags := 1, code := none }
def k1c1 : Code := { maxStack := 8, maxLocals := 16, code := code, exceptionTable := #[], attributes := #[] }
def k1m1 : Method := { name := "law", desc := "(IIIIII)Z", sig := { parameters := [.int, .int, .int, .int, .int, .int], returnType := some .boolean }, accessFlags := 9, code := some k1c1 }
/-- com/example/eidwerk/eidwerk/card/CommandApduIsReadBinaryPinLaw -/
def k1 : Class := { plain "com/example/eidwerk/eidwerk/card/CommandApduIsReadBinaryPinLaw" (some 0) with
  accessFlags := 49
  interfaces := #[]
  cf := some (fileOf pool1 18 #[] #[{ accessFlags := 1, nameIndex := 5, descriptorIndex := 6, attributes := #[] }, { accessFlags := 9, nameIndex := 22, descriptorIndex := 23, attributes := #[] }] 49 2 #[] #[])
  fields := #[]
  methods := #[k1m0, k1m1]
  instanceTypes := #[]
  staticTypes := #[]
  resolved := Array.replicate 29 none
  statics := none }

def pool2 : Array CpInfo := pool [(1, .class_ 2), (0, u "com/example/eidwerk/eidwerk/card/CommandApdu"), (0, .methodref 1 4), (0, .nameAndType 5 6), (0, u "<init>"), (0, u "(IIII[BIZ)V"), (2, u "(IIII[BI)V"), (0, .methodref 11 12), (0, .class_ 13), (0, .nameAndType 5 14), (0, u "java/lang/Object"), (0, u "()V"), (0, .string 16), (0, u "CLA"), (0, .methodref 1 18), (0, .nameAndType 19 20), (0, u "requireByte"), (0, u "(ILjava/lang/String;)V"), (0, .string 22), (0, u "INS"), (0, .string 24), (0, u "P1"), (0, .string 26), (0, u "P2"), (0, .integer 65535), (9, .integer 65536), (1, .fieldref 1 40), (0, .nameAndType 41 42), (0, u "cla"), (0, u "I"), (0, .fieldref 1 44), (0, .nameAndType 45 42), (0, u "ins"), (0, .fieldref 1 47), (0, .nameAndType 48 42), (0, u "p1"), (0, .fieldref 1 50), (0, .nameAndType 51 42), (0, u "p2"), (0, .methodref 53 54), (0, .class_ 55), (0, .nameAndType 56 57), (0, u "[B"), (0, u "clone"), (0, u "()Ljava/lang/Object;"), (0, .fieldref 1 59), (0, .nameAndType 60 55), (0, u "data"), (0, .fieldref 1 62), (0, .nameAndType 63 42), (0, u "ne"), (0, .fieldref 1 65), (0, .nameAndType 66 67), (0, u "extended"), (0, u "Z"), (42, u "MAX_SHORT_DATA"), (2, u "MAX_SHORT_RESPONSE"), (1, u "MAX_EXTENDED_DATA"), (0, u "MAX_EXTENDED_RESPONSE"), (0, u "INS_MANAGE_SECURITY_ENVIRONMENT"), (1, u "INS_EXTERNAL_AUTHENTICATE"), (1, u "INS_GET_CHALLENGE"), (1, u "INS_GENERAL_AUTHENTICATE"), (1, u "INS_SELECT"), (1, u "INS_READ_BINARY"), (1, u "INS_READ_BINARY_ODD"), (1, u "HEADER_LENGTH"), (1, u "SHORT_LENGTH"), (1, u "EXTENDED_LENGTH"), (8, u "isReadBinary"), (0, u "()Z")] 34

def k2c0 : Code := { maxStack := 9, maxLocals := 7, code := prog_16_method_1_code, exceptionTable := #[], attributes := #[] }
def k2m0 : Method := { name := "<init>", desc := "(IIII[BI)V", sig := { parameters := [.int, .int, .int, .int, (.array .byte), .int], returnType := none }, accessFlags := 1, code := some k2c0 }
def k2c1 : Code := { maxStack := 3, maxLocals := 8, code := prog_16_method_3_code, exceptionTable := #[], attributes := #[] }
def k2m1 : Method := { name := "<init>", desc := "(IIII[BIZ)V", sig := { parameters := [.int, .int, .int, .int, (.array .byte), .int, .boolean], returnType := none }, accessFlags := 2, code := some k2c1 }
def k2c2 : Code := { maxStack := 2, maxLocals := 1, code := prog_16_method_11_code, exceptionTable := #[], attributes := #[] }
def k2m2 : Method := { name := "isReadBinary", desc := "()Z", sig := { parameters := [], returnType := some .boolean }, accessFlags := 1, code := some k2c2 }
def k2c3 : Code := { maxStack := 4, maxLocals := 2, code := prog_16_method_18_code, exceptionTable := #[], attributes := #[] }
def k2m3 : Method := { name := "requireByte", desc := "(ILjava/lang/String;)V", sig := { parameters := [.int, (.object "java/lang/String")], returnType := none }, accessFlags := 10, code := some k2c3 }
/-- com/example/eidwerk/eidwerk/card/CommandApdu -/
def k2 : Class := { plain "com/example/eidwerk/eidwerk/card/CommandApdu" (some 0) with
  accessFlags := 49
  interfaces := #[]
  cf := some (fileOf pool2 1 #[] #[{ accessFlags := 1, nameIndex := 5, descriptorIndex := 9, attributes := #[] }, { accessFlags := 2, nameIndex := 5, descriptorIndex := 6, attributes := #[] }, { accessFlags := 1, nameIndex := 144, descriptorIndex := 145, attributes := #[] }, { accessFlags := 10, nameIndex := 19, descriptorIndex := 20, attributes := #[] }] 49 11 #[] #[{ accessFlags := 25, nameIndex := 110, descriptorIndex := 42, attributes := #[] }, { accessFlags := 25, nameIndex := 113, descriptorIndex := 42, attributes := #[] }, { accessFlags := 25, nameIndex := 115, descriptorIndex := 42, attributes := #[] }, { accessFlags := 25, nameIndex := 116, descriptorIndex := 42, attributes := #[] }, { accessFlags := 25, nameIndex := 117, descriptorIndex := 42, attributes := #[] }, { accessFlags := 25, nameIndex := 119, descriptorIndex := 42, attributes := #[] }, { accessFlags := 25, nameIndex := 121, descriptorIndex := 42, attributes := #[] }, { accessFlags := 25, nameIndex := 123, descriptorIndex := 42, attributes := #[] }, { accessFlags := 25, nameIndex := 125, descriptorIndex := 42, attributes := #[] }, { accessFlags := 25, nameIndex := 127, descriptorIndex := 42, attributes := #[] }, { accessFlags := 25, nameIndex := 129, descriptorIndex := 42, attributes := #[] }, { accessFlags := 26, nameIndex := 131, descriptorIndex := 42, attributes := #[] }, { accessFlags := 26, nameIndex := 133, descriptorIndex := 42, attributes := #[] }, { accessFlags := 26, nameIndex := 135, descriptorIndex := 42, attributes := #[] }, { accessFlags := 18, nameIndex := 41, descriptorIndex := 42, attributes := #[] }, { accessFlags := 18, nameIndex := 45, descriptorIndex := 42, attributes := #[] }, { accessFlags := 18, nameIndex := 48, descriptorIndex := 42, attributes := #[] }, { accessFlags := 18, nameIndex := 51, descriptorIndex := 42, attributes := #[] }, { accessFlags := 18, nameIndex := 60, descriptorIndex := 55, attributes := #[] }, { accessFlags := 18, nameIndex := 63, descriptorIndex := 42, attributes := #[] }, { accessFlags := 18, nameIndex := 66, descriptorIndex := 67, attributes := #[] }])
  fields := #[{ name := "MAX_SHORT_DATA", type := .int, accessFlags := 25, slot := 0, constantValue := 0 }, { name := "MAX_SHORT_RESPONSE", type := .int, accessFlags := 25, slot := 1, constantValue := 0 }, { name := "MAX_EXTENDED_DATA", type := .int, accessFlags := 25, slot := 2, constantValue := 0 }, { name := "MAX_EXTENDED_RESPONSE", type := .int, accessFlags := 25, slot := 3, constantValue := 0 }, { name := "INS_MANAGE_SECURITY_ENVIRONMENT", type := .int, accessFlags := 25, slot := 4, constantValue := 0 }, { name := "INS_EXTERNAL_AUTHENTICATE", type := .int, accessFlags := 25, slot := 5, constantValue := 0 }, { name := "INS_GET_CHALLENGE", type := .int, accessFlags := 25, slot := 6, constantValue := 0 }, { name := "INS_GENERAL_AUTHENTICATE", type := .int, accessFlags := 25, slot := 7, constantValue := 0 }, { name := "INS_SELECT", type := .int, accessFlags := 25, slot := 8, constantValue := 0 }, { name := "INS_READ_BINARY", type := .int, accessFlags := 25, slot := 9, constantValue := 0 }, { name := "INS_READ_BINARY_ODD", type := .int, accessFlags := 25, slot := 10, constantValue := 0 }, { name := "HEADER_LENGTH", type := .int, accessFlags := 26, slot := 11, constantValue := 0 }, { name := "SHORT_LENGTH", type := .int, accessFlags := 26, slot := 12, constantValue := 0 }, { name := "EXTENDED_LENGTH", type := .int, accessFlags := 26, slot := 13, constantValue := 0 }, { name := "cla", type := .int, accessFlags := 18, slot := 0, constantValue := 0 }, { name := "ins", type := .int, accessFlags := 18, slot := 1, constantValue := 0 }, { name := "p1", type := .int, accessFlags := 18, slot := 2, constantValue := 0 }, { name := "p2", type := .int, accessFlags := 18, slot := 3, constantValue := 0 }, { name := "data", type := (.array .byte), accessFlags := 18, slot := 4, constantValue := 0 }, { name := "ne", type := .int, accessFlags := 18, slot := 5, constantValue := 0 }, { name := "extended", type := .boolean, accessFlags := 18, slot := 6, constantValue := 0 }]
  methods := #[k2m0, k2m1, k2m2, k2m3]
  instanceTypes := #[.int, .int, .int, .int, (.array .byte), .int, .boolean]
  staticTypes := #[.int, .int, .int, .int, .int, .int, .int, .int, .int, .int, .int, .int, .int, .int]
  resolved := Array.replicate 180 none
  statics := none }

def pool3 : Array CpInfo := pool [(1, .class_ 2), (0, u "java/io/Serializable"), (0, .class_ 4), (0, u "java/lang/Object")] 2

/-- java/io/Serializable -/
def k3 : Class := { plain "java/io/Serializable" (some 0) with
  accessFlags := 1537
  interfaces := #[]
  cf := some (fileOf pool3 1 #[] #[] 1537 3 #[] #[])
  fields := #[]
  methods := #[]
  instanceTypes := #[]
  staticTypes := #[]
  resolved := Array.replicate 7 none
  statics := none }

def pool4 : Array CpInfo := pool [(1, .class_ 2), (0, u "java/lang/Comparable"), (0, .class_ 4), (0, u "java/lang/Object")] 7

/-- java/lang/Comparable -/
def k4 : Class := { plain "java/lang/Comparable" (some 0) with
  accessFlags := 1537
  interfaces := #[]
  cf := some (fileOf pool4 1 #[] #[] 1537 3 #[] #[])
  fields := #[]
  methods := #[]
  instanceTypes := #[]
  staticTypes := #[]
  resolved := Array.replicate 12 none
  statics := none }

def pool5 : Array CpInfo := pool [(2, .class_ 4), (1, u "java/lang/CharSequence"), (42, .class_ 48), (0, u "java/lang/CharSequence$1CodePointIterator"), (10, .class_ 60), (0, u "java/lang/CharSequence$1CharIterator"), (5, .class_ 67), (0, u "java/lang/Object")] 63

/-- java/lang/CharSequence -/
def k5 : Class := { plain "java/lang/CharSequence" (some 0) with
  accessFlags := 1537
  interfaces := #[]
  cf := some (fileOf pool5 2 #[.nestMembers #[47, 59]] #[] 1537 66 #[] #[])
  fields := #[]
  methods := #[]
  instanceTypes := #[]
  staticTypes := #[]
  resolved := Array.replicate 131 none
  statics := none }

def pool6 : Array CpInfo := pool [(1, .class_ 2), (0, u "java/lang/constant/Constable"), (0, .class_ 4), (0, u "java/lang/Object")] 6

/-- java/lang/constant/Constable -/
def k6 : Class := { plain "java/lang/constant/Constable" (some 0) with
  accessFlags := 1537
  interfaces := #[]
  cf := some (fileOf pool6 1 #[] #[] 1537 3 #[] #[])
  fields := #[]
  methods := #[]
  instanceTypes := #[]
  staticTypes := #[]
  resolved := Array.replicate 11 none
  statics := none }

def pool7 : Array CpInfo := pool [(1, .class_ 2), (0, u "java/lang/constant/ConstantDesc"), (0, .class_ 4), (0, u "java/lang/Object")] 32

/-- java/lang/constant/ConstantDesc -/
def k7 : Class := { plain "java/lang/constant/ConstantDesc" (some 0) with
  accessFlags := 1537
  interfaces := #[]
  cf := some (fileOf pool7 1 #[] #[] 1537 3 #[] #[])
  fields := #[]
  methods := #[]
  instanceTypes := #[]
  staticTypes := #[]
  resolved := Array.replicate 37 none
  statics := none }

def pool8 : Array CpInfo := pool [(2, .class_ 4), (1, u "java/lang/Object"), (0, u "<init>"), (0, u "()V"), (3, .class_ 12), (1, u "java/lang/String"), (0, u "value"), (0, u "[B"), (2, u "coder"), (0, u "B"), (2, u "hash"), (0, u "I"), (2, u "hashIsZero"), (0, u "Z"), (13, u "COMPACT_STRINGS"), (534, .class_ 576), (0, u "java/lang/CharSequence"), (22, u "CASE_INSENSITIVE_ORDER"), (0, u "Ljava/util/Comparator;"), (500, u "serialPersistentFields"), (0, u "[Ljava/io/ObjectStreamField;"), (0, .class_ 1104), (0, u "java/lang/String$CaseInsensitiveComparator"), (1, .class_ 1107), (0, u "java/io/Serializable"), (0, .class_ 1109), (0, u "java/lang/Comparable"), (0, .class_ 1111), (0, u "java/lang/constant/Constable"), (0, .class_ 1113), (0, u "java/lang/constant/ConstantDesc"), (2, u "serialVersionUID"), (0, u "J"), (3, u "REPL"), (0, u "C"), (2, u "LATIN1"), (1, u "UTF16")] 323

def k8m0 : Method := { name := "<init>", desc := "()V", sig := { parameters := [], returnType := none }, accessFlags := 1, code := none }
/-- java/lang/String -/
def k8 : Class := { plain "java/lang/String" (some 0) with
  accessFlags := 49
  interfaces := #[3, 4, 5, 6, 7]
  cf := some (fileOf pool8 10 #[.nestMembers #[1103]] #[{ accessFlags := 1, nameIndex := 5, descriptorIndex := 6, attributes := #[] }] 49 2 #[1106, 1108, 575, 1110, 1112] #[{ accessFlags := 18, nameIndex := 13, descriptorIndex := 14, attributes := #[] }, { accessFlags := 18, nameIndex := 17, descriptorIndex := 18, attributes := #[] }, { accessFlags := 2, nameIndex := 21, descriptorIndex := 22, attributes := #[] }, { accessFlags := 2, nameIndex := 25, descriptorIndex := 26, attributes := #[] }, { accessFlags := 26, nameIndex := 1116, descriptorIndex := 1117, attributes := #[] }, { accessFlags := 24, nameIndex := 40, descriptorIndex := 26, attributes := #[] }, { accessFlags := 26, nameIndex := 1101, descriptorIndex := 1102, attributes := #[] }, { accessFlags := 26, nameIndex := 1121, descriptorIndex := 1122, attributes := #[] }, { accessFlags := 25, nameIndex := 599, descriptorIndex := 600, attributes := #[] }, { accessFlags := 24, nameIndex := 1125, descriptorIndex := 18, attributes := #[] }, { accessFlags := 24, nameIndex := 1127, descriptorIndex := 18, attributes := #[] }])
  fields := #[{ name := "value", type := (.array .byte), accessFlags := 18, slot := 0, constantValue := 0 }, { name := "coder", type := .byte, accessFlags := 18, slot := 1, constantValue := 0 }, { name := "hash", type := .int, accessFlags := 2, slot := 2, constantValue := 0 }, { name := "hashIsZero", type := .boolean, accessFlags := 2, slot := 3, constantValue := 0 }, { name := "serialVersionUID", type := .long, accessFlags := 26, slot := 0, constantValue := 0 }, { name := "COMPACT_STRINGS", type := .boolean, accessFlags := 24, slot := 1, constantValue := 0 }, { name := "serialPersistentFields", type := (.array (.object "java/io/ObjectStreamField")), accessFlags := 26, slot := 2, constantValue := 0 }, { name := "REPL", type := .char, accessFlags := 26, slot := 3, constantValue := 0 }, { name := "CASE_INSENSITIVE_ORDER", type := (.object "java/util/Comparator"), accessFlags := 25, slot := 4, constantValue := 0 }, { name := "LATIN1", type := .byte, accessFlags := 24, slot := 5, constantValue := 0 }, { name := "UTF16", type := .byte, accessFlags := 24, slot := 6, constantValue := 0 }]
  methods := #[k8m0]
  instanceTypes := #[(.array .byte), .byte, .int, .boolean]
  staticTypes := #[.long, .boolean, (.array (.object "java/io/ObjectStreamField")), .char, (.object "java/util/Comparator"), .byte, .byte]
  resolved := Array.replicate 1451 none
  statics := none }

def pool9 : Array CpInfo := pool [(1, .class_ 2), (0, u "java/lang/Cloneable"), (0, .class_ 4), (0, u "java/lang/Object")] 2

/-- java/lang/Cloneable -/
def k9 : Class := { plain "java/lang/Cloneable" (some 0) with
  accessFlags := 1537
  interfaces := #[]
  cf := some (fileOf pool9 1 #[] #[] 1537 3 #[] #[])
  fields := #[]
  methods := #[]
  instanceTypes := #[]
  staticTypes := #[]
  resolved := Array.replicate 7 none
  statics := none }

/-- the primitive byte -/
def k10 : Class := { plain "byte" none with kind := .primitive 'B', accessFlags := 0x411 }
/-- [B -/
def k11 : Class := { plain "[B" (some 0) with kind := .array 10 .byte, interfaces := #[9, 3], accessFlags := 1041 }

/-- the primitive int -/
def k12 : Class := { plain "int" none with kind := .primitive 'I', accessFlags := 0x411 }
/-- [I -/
def k13 : Class := { plain "[I" (some 0) with kind := .array 12 .int, interfaces := #[9, 3], accessFlags := 1041 }

def heap : Heap := #[]
def classes : Array Class := #[k0, k1, k2, k3, k4, k5, k6, k7, k8, k9, k10, k11, k12, k13]
def interned : List (Array UInt16 × Addr) := []
def slotsUsed : Nat := 0
def theMethod : MethodId := ⟨1, 1⟩
def args0 : Array Value := #[.int 5, .int 5, .int 5, .int 5, .int 5, .int 5]
def aboutOver (below : List Frame) : State where
  vm := { classes := classes, interned := interned.toArray }
  heap := heap
  slotsUsed := slotsUsed
  threads := #[{ frames := .invoking theMethod args0 :: below }]
def below0 : List Frame := [.native { method := ⟨0, 0⟩, args := #[] }]
def about1 : State := aboutOver below0
def p0 : Program := .bare "" "" ""
def e0 : Env := launch0.env 0 0 0
theorem w_frames : about1.frames = Frame.invoking theMethod args0 :: below0 := rfl
set_option maxRecDepth 65536 in
theorem w_args : argsFit about1.vm theMethod args0 = true := by decide +kernel
set_option maxRecDepth 65536 in
theorem w_heap : heapFits about1 = true := by decide +kernel
set_option maxRecDepth 65536 in
theorem w_runnable : about1.curStatus? = some .runnable := by decide +kernel
set_option maxRecDepth 65536 in
theorem w_alone : about1.alone = true := by decide +kernel
set_option maxRecDepth 65536 in
theorem w_named : about1.methodNamed? x = some theMethod := by decide +kernel
set_option maxRecDepth 65536 in
theorem w_hears : about1.hears theMethod below0 = true := by decide +kernel
set_option maxRecDepth 65536 in
theorem w_ripe : about1.ripe theMethod args0 below0 = true := by decide +kernel
theorem w_running : about1.status = .running := rfl
set_option maxRecDepth 65536 in
theorem w_room : about1.hasRoom e0.platform room_1 = true :=
  launch0.hasRoom_least _ room_1 (by decide +kernel) (by decide +kernel) (by decide +kernel) (by decide +kernel) (by decide +kernel) (by decide +kernel)
theorem allAtoms_all (ts : List Jvm.Cond) (a : Array Jvm.Value) (st : Jvm.State) : (allAtoms ts).before a st = ts.all (fun c => c.before a st) := by
  induction ts with
  | nil => rfl
  | cons c t ih =>
    show (Jvm.Cond.and c (allAtoms t)).before a st = _
    rw [Jvm.Cond.before_and, ih, List.all_cons]
def words1 : List Jvm.Cond := Jvm.Cond.code x code maxLocals ret :: tables_1
/-- a 'code' word, met by the world's own term for the bytes: nothing is compared byte by byte -/
theorem code_word {y : MethodName} {bytes : ByteArray} {mx : Nat} {rt : Option FieldType} {a : Array Value} {s : State} {m : MethodId} {meth : Method} {c : Code} (h1 : s.methodNamed? y = some m) (h2 : s.vm.method? m = some meth) (h3 : meth.code = some c) (h4 : c.code = bytes)
    (h5 : (c.maxLocals == mx && c.exceptionTable.isEmpty && decide (c.maxStack ≤ mostOperands) && decide (meth.sig.returnType = rt) && !meth.locks && decide (parseMethodDescriptor y.desc = some meth.sig)) = true) : (Jvm.Cond.code y bytes mx rt).before a s = true := by
  simp only [Bool.and_eq_true, beq_iff_eq, Bool.not_eq_true', decide_eq_true_eq] at h5
  obtain ⟨⟨⟨⟨⟨g1, g2⟩, g3⟩, g4⟩, g5⟩, g6⟩ := h5
  simp [Cond.before, Cond.holds, Cond.value, h1, h2, h3, h4, g1, g2, g3, g4, g5, g6]
def isCode : Jvm.Cond → Bool
  | .code _ _ _ _ => true
  | _ => false
theorem all_split {L : List Jvm.Cond} {P : Jvm.Cond → Bool} (h1 : L.all (fun c => isCode c || P c) = true) (h2 : ∀ c ∈ L.filter isCode, P c = true) : L.all P = true := by
  refine List.all_eq_true.mpr fun c hc => ?_
  have h := List.all_eq_true.mp h1 c hc
  rcases Bool.eq_false_or_eq_true (isCode c) with hi | hi
  · exact h2 c (List.mem_filter.mpr ⟨hc, hi⟩)
  · simpa [hi] using h
set_option maxRecDepth 65536 in
theorem w_c0 : (Jvm.Cond.code x code maxLocals ret).before args0 about1 = true := code_word (m := ⟨1, 1⟩) (meth := k1m1) (c := k1c1) (by decide +kernel) rfl rfl rfl (by decide +kernel)
set_option maxRecDepth 65536 in
theorem w_c1 : (Jvm.Cond.code ({ cls := "com/example/eidwerk/eidwerk/card/CommandApdu", name := "<init>", desc := "(IIII[BI)V" } : Jvm.MethodName) prog_16_method_1_code (7 : Nat) (Option.none : Option Jvm.ClassFile.FieldType)).before args0 about1 = true := code_word (m := ⟨2, 0⟩) (meth := k2m0) (c := k2c0) (by decide +kernel) rfl rfl rfl (by decide +kernel)
set_option maxRecDepth 65536 in
theorem w_c2 : (Jvm.Cond.code ({ cls := "com/example/eidwerk/eidwerk/card/CommandApdu", name := "<init>", desc := "(IIII[BIZ)V" } : Jvm.MethodName) prog_16_method_3_code (8 : Nat) (Option.none : Option Jvm.ClassFile.FieldType)).before args0 about1 = true := code_word (m := ⟨2, 1⟩) (meth := k2m1) (c := k2c1) (by decide +kernel) rfl rfl rfl (by decide +kernel)
set_option maxRecDepth 65536 in
theorem w_c3 : (Jvm.Cond.code ({ cls := "java/lang/Object", name := "<init>", desc := "()V" } : Jvm.MethodName) object_method_1_code (1 : Nat) (Option.none : Option Jvm.ClassFile.FieldType)).before args0 about1 = true := code_word (m := ⟨0, 0⟩) (meth := k0m0) (c := k0c0) (by decide +kernel) rfl rfl rfl (by decide +kernel)
set_option maxRecDepth 65536 in
theorem w_c4 : (Jvm.Cond.code ({ cls := "com/example/eidwerk/eidwerk/card/CommandApdu", name := "requireByte", desc := "(ILjava/lang/String;)V" } : Jvm.MethodName) prog_16_method_18_code (2 : Nat) (Option.none : Option Jvm.ClassFile.FieldType)).before args0 about1 = true := code_word (m := ⟨2, 3⟩) (meth := k2m3) (c := k2c3) (by decide +kernel) rfl rfl rfl (by decide +kernel)
set_option maxRecDepth 65536 in
theorem w_c5 : (Jvm.Cond.code ({ cls := "com/example/eidwerk/eidwerk/card/CommandApdu", name := "isReadBinary", desc := "()Z" } : Jvm.MethodName) prog_16_method_11_code (1 : Nat) (Option.some Jvm.ClassFile.FieldType.boolean)).before args0 about1 = true := code_word (m := ⟨2, 2⟩) (meth := k2m2) (c := k2c2) (by decide +kernel) rfl rfl rfl (by decide +kernel)
def codes1 : List Jvm.Cond := [Jvm.Cond.code x code maxLocals ret, Jvm.Cond.code ({ cls := "com/example/eidwerk/eidwerk/card/CommandApdu", name := "<init>", desc := "(IIII[BI)V" } : Jvm.MethodName) prog_16_method_1_code (7 : Nat) (Option.none : Option Jvm.ClassFile.FieldType), Jvm.Cond.code ({ cls := "com/example/eidwerk/eidwerk/card/CommandApdu", name := "<init>", desc := "(IIII[BIZ)V" } : Jvm.MethodName) prog_16_method_3_code (8 : Nat) (Option.none : Option Jvm.ClassFile.FieldType), Jvm.Cond.code ({ cls := "java/lang/Object", name := "<init>", desc := "()V" } : Jvm.MethodName) object_method_1_code (1 : Nat) (Option.none : Option Jvm.ClassFile.FieldType), Jvm.Cond.code ({ cls := "com/example/eidwerk/eidwerk/card/CommandApdu", name := "requireByte", desc := "(ILjava/lang/String;)V" } : Jvm.MethodName) prog_16_method_18_code (2 : Nat) (Option.none : Option Jvm.ClassFile.FieldType), Jvm.Cond.code ({ cls := "com/example/eidwerk/eidwerk/card/CommandApdu", name := "isReadBinary", desc := "()Z" } : Jvm.MethodName) prog_16_method_11_code (1 : Nat) (Option.some Jvm.ClassFile.FieldType.boolean)]
set_option maxRecDepth 65536 in
theorem codes_eq : words1.filter isCode = codes1 := rfl
theorem w_codes : ∀ c ∈ words1.filter isCode, c.before args0 about1 = true := by
  rw [codes_eq]
  intro c hc
  simp only [codes1, List.mem_cons, List.not_mem_nil, or_false] at hc
  rcases hc with rfl | rfl | rfl | rfl | rfl | rfl
  · exact w_c0
  · exact w_c1
  · exact w_c2
  · exact w_c3
  · exact w_c4
  · exact w_c5
set_option maxRecDepth 65536 in
theorem w_t1 : (words1.take 24).all (fun c => isCode c || c.before args0 about1) = true := by decide +kernel
set_option maxRecDepth 65536 in
theorem w_t2 : ((words1.drop 24).take 24).all (fun c => isCode c || c.before args0 about1) = true := by decide +kernel
set_option maxRecDepth 65536 in
theorem w_t3 : ((words1.drop 24).drop 24).all (fun c => isCode c || c.before args0 about1) = true := by decide +kernel
theorem w_tables : (allAtoms (Jvm.Cond.code x code maxLocals ret :: tables_1)).before args0 about1 = true := by
  rw [allAtoms_all]
  show words1.all (fun c => c.before args0 about1) = true
  refine all_split ?_ w_codes
  rw [← List.take_append_drop 24 words1, List.all_append, w_t1, ← List.take_append_drop 24 (words1.drop 24), List.all_append, w_t2, w_t3]
  rfl
set_option maxRecDepth 65536 in
theorem w_case : (Jvm.Cond.and given_1 narrow_1).before args0 about1 = true := by decide +kernel
theorem w_applies : (headSpec (Jvm.Cond.code x code maxLocals ret :: tables_1) room_1).applies x e0.platform about1 = true :=
  (Spec.applies_iff w_frames).mpr ⟨w_running, w_runnable, w_alone, w_named, w_hears, w_ripe, w_room, w_tables⟩
theorem atStart : AtStart classFile x code maxLocals ret World_1 tables_1 room_1 Calls_1 rest_1 Pre_1 launch0 p0 e0 about1 theMethod args0 below0 :=
  ⟨lists_1, trivial, launch0.admits_env _ _ _, launch0.least_env, fairChoices_fair.cas, fairChoices_fair.clock, w_frames, w_args, w_heap, w_applies, trivial, trivial, w_case⟩
end start1
theorem witness_1 : WitnessClaimed_1 := ⟨start1.p0, start1.e0, start1.about1, start1.theMethod, start1.args0, start1.below0, start1.atStart⟩
end Jvm.Pilot.@@N@@
