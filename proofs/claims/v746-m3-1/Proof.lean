import JvmDerived
import JvmDerived.Pilot.@@N@@Statement
import JvmDerived.Pilot.@@N@@Code
set_option linter.unusedVariables false
set_option linter.unusedSimpArgs false

namespace Jvm.Pilot.@@N@@
open Jvm Jvm.ClassFile Sem Op Lib Jvm.Free Jvm.Stand Jvm.LawKit Jvm.RoadKit Bundle Jvm.Pilot.@@N@@.Jvm.D
/-! 1. the goal of a walk, and its steps -/
section OwnGoal
variable {p : Program} {l : Launch} {e : Env} {R : Room} {s : State} {m : MethodId} {args : Array Value} {below : List Frame} {meth : Method} {c : Code} {T : State} {locs : List Loc} {cells slots : Nat}
/-- from the state S the body returns, P holds of what it leaves, and the frame is kept -/
def Gl (p : Program) (e : Env) (below : List Frame) (s : State) (kc ks : Nat) (P : Option Value → Heap → List Loc → Prop) (S : State) : Prop :=
  ∃ t o, Steps p.tables e below S t ∧ t.status = .running ∧ Ended t below o ∧ ∃ v L, o = .returned v ∧ P v t.heap L ∧ FrameEnd s o t L kc ks
variable {kc ks : Nat} {P : Option Value → Heap → List Loc → Prop}
theorem Gl.on {A B : State} (h : ∀ t, Steps p.tables e below B t → Steps p.tables e below A t) (k : Gl p e below s kc ks P B) : Gl p e below s kc ks P A := by
  obtain ⟨t, o, h1, h2⟩ := k
  exact ⟨t, o, h t h1, h2⟩
theorem own_to {tb : Tables} {A B t : State} (q : A = B) (k : Steps tb e below B t) : Steps tb e below A t := q ▸ k
theorem Gl.out (X : Stand p l e R s m args below meth c T locs cells slots) (hx : p.tables.exec = Jvm.exec) (hlk : meth.locks = false) {pc : Nat} {Ls : Array Slot} {w : Value} {t : FieldType} {i : Instr} {rest : List Value} (hret : meth.sig.returnType = some t) (hn : narrow t w = w)
    (hi : (i = .ireturn ∧ (t = .int ∨ t = .boolean ∨ t = .byte ∨ t = .char ∨ t = .short) ∧ ∃ z, w = .int z) ∨ (i = .lreturn ∧ t = .long ∧ ∃ z, w = .long z) ∨ (i = .dreturn ∧ t = .double ∧ ∃ z, w = .double z) ∨ (i = .freturn ∧ t = .float ∧ ∃ z, w = .float z) ∨ (i = .areturn ∧ t.isReference = true ∧ w.isRef = true))
    (hd : decode c.code pc = .ok (i, 1)) (hP : P (some w) T.heap locs) (hc : cells ≤ kc) (hs : slots ≤ ks) : Gl p e below s kc ks P (T.setTop (mkF m pc Ls (w :: rest))) := by
  obtain ⟨fs, hr, hrun, hended, hW, hsame⟩ := X.leave (v := some w) (fun h => by rw [hret] at h; cases h) hlk
  exact ⟨_, _, retOut X hx hret hn hi hd hr, hrun, hended, _, _, rfl, hP, ⟨_, rfl⟩, hW, hsame.mono hc hs⟩
theorem Gl.outI (X : Stand p l e R s m args below meth c T locs cells slots) (hx : p.tables.exec = Jvm.exec) (hlk : meth.locks = false) {pc : Nat} {Ls : Array Slot} {z : Int32} {rest : List Value} (hret : meth.sig.returnType = some .int)
    (hd : decode c.code pc = .ok (.ireturn, 1)) (hP : P (some (.int z)) T.heap locs) (hc : cells ≤ kc) (hs : slots ≤ ks) : Gl p e below s kc ks P (T.setTop (mkF m pc Ls (.int z :: rest))) :=
  Gl.out X hx hlk hret rfl (Or.inl ⟨rfl, Or.inl rfl, z, rfl⟩) hd hP hc hs
theorem Gl.outJ (X : Stand p l e R s m args below meth c T locs cells slots) (hx : p.tables.exec = Jvm.exec) (hlk : meth.locks = false) {pc : Nat} {Ls : Array Slot} {z : Int64} {rest : List Value} (hret : meth.sig.returnType = some .long)
    (hd : decode c.code pc = .ok (.lreturn, 1)) (hP : P (some (.long z)) T.heap locs) (hc : cells ≤ kc) (hs : slots ≤ ks) : Gl p e below s kc ks P (T.setTop (mkF m pc Ls (.long z :: rest))) :=
  Gl.out X hx hlk hret rfl (Or.inr (Or.inl ⟨rfl, rfl, z, rfl⟩)) hd hP hc hs
theorem Gl.outR (X : Stand p l e R s m args below meth c T locs cells slots) (hx : p.tables.exec = Jvm.exec) (hlk : meth.locks = false) {pc : Nat} {Ls : Array Slot} {a : Addr} {t : FieldType} {rest : List Value} (hret : meth.sig.returnType = some t) (ht : t.isReference = true)
    (hd : decode c.code pc = .ok (.areturn, 1)) (hP : P (some (.ref a)) T.heap locs) (hc : cells ≤ kc) (hs : slots ≤ ks) : Gl p e below s kc ks P (T.setTop (mkF m pc Ls (.ref a :: rest))) :=
  Gl.out X hx hlk hret (by cases t <;> first | rfl | cases ht) (Or.inr (Or.inr (Or.inr (Or.inr ⟨rfl, ht, rfl⟩)))) hd hP hc hs
theorem Gl.outN (X : Stand p l e R s m args below meth c T locs cells slots) (hx : p.tables.exec = Jvm.exec) (hlk : meth.locks = false) {pc : Nat} {Ls : Array Slot} {z : Int32} {t : FieldType} {rest : List Value} (hret : meth.sig.returnType = some t) (ht : t = .boolean ∨ t = .byte ∨ t = .char ∨ t = .short)
    (hd : decode c.code pc = .ok (.ireturn, 1)) (hP : P (some (.int (nar t z))) T.heap locs) (hc : cells ≤ kc) (hs : slots ≤ ks) : Gl p e below s kc ks P (T.setTop (mkF m pc Ls (.int z :: rest))) := by
  obtain ⟨fs, hr, hrun, hended, hW, hsame⟩ := X.leave (v := some (.int (nar t z))) (fun h => by rw [hret] at h; cases h) hlk
  exact ⟨_, _, retN X hx hret ht hd hr, hrun, hended, _, _, rfl, hP, ⟨_, rfl⟩, hW, hsame.mono hc hs⟩
theorem Gl.outV (X : Stand p l e R s m args below meth c T locs cells slots) (hx : p.tables.exec = Jvm.exec) (hlk : meth.locks = false) {pc : Nat} {Ls : Array Slot} (hret : meth.sig.returnType = none)
    (hd : decode c.code pc = .ok (.return_, 1)) (hP : P none T.heap locs) (hc : cells ≤ kc) (hs : slots ≤ ks) : Gl p e below s kc ks P (T.setTop (mkF m pc Ls [])) := by
  obtain ⟨fs, hr, hrun, hended, hW, hsame⟩ := X.leave (v := none) (fun _ => rfl) hlk
  exact ⟨_, _, X.returnOut hx hret hd hr, hrun, hended, _, _, rfl, hP, ⟨_, rfl⟩, hW, hsame.mono hc hs⟩
end OwnGoal
theorem own_inj {α β : Type} {a b : α} {c d : β} (h : some (a, c) = some (b, d)) : a = b ∧ c = d := by cases h; exact ⟨rfl, rfl⟩
theorem own_inj1 {α : Type} {a b : α} (h : some a = some b) : a = b := by cases h; rfl
def own_let {α β : Type} (a : α) (f : α → β) : β := f a
theorem own_letE {α β : Type} {a : α} {f : α → β} {b : β} (h : own_let a f = b) : ∃ x, a = x ∧ f x = b := ⟨a, rfl, h⟩
theorem own_bind {α β : Type} {o : Option α} {f : α → Option β} {b : β} (h : o.bind f = some b) : ∃ x, o = some x ∧ f x = some b := by
  cases o with
  | none => cases h
  | some x => exact ⟨x, rfl, h⟩
/-! 2. what the law has made: a list of objects, each with its kind and its values; a reference is a place in that list -/
abbrev Hp := List (Nat × List Value)
abbrev Kt := Nat → FieldType × List (String × String)
def sh (n0 : Nat) : Value → Value
  | .ref k => .ref (n0 + k)
  | v => v
def gV (D : Hp) (a t i : Nat) : Option Value := (D[a]?).bind fun ob => if ob.1 = t then ob.2[i]? else none
def asI : Value → Option Int32
  | .int x => some x
  | _ => none
def asJ : Value → Option Int64
  | .long x => some x
  | _ => none
def asR : Value → Option Nat
  | .ref x => some x
  | _ => none
def gI (D : Hp) (a t i : Nat) : Option Int32 := (gV D a t i).bind asI
def gJ (D : Hp) (a t i : Nat) : Option Int64 := (gV D a t i).bind asJ
def gR (D : Hp) (a t i : Nat) : Option Nat := (gV D a t i).bind asR
def ck (D : Hp) (a t : Nat) : Option Nat := (D[a]?).bind fun ob => if ob.1 = t then some t else none
def pV (D : Hp) (a t i : Nat) (v : Value) : Option Hp := (D[a]?).bind fun ob => if ob.1 = t then (if i < ob.2.length then some (D.set a (t, ob.2.set i v)) else none) else none
def rV (D : Hp) (a t : Nat) (j : Int32) : Option Value := (D[a]?).bind fun ob => if ob.1 = t then (if j < 0 then none else ob.2[j.toNatClampNeg]?) else none
def rI (D : Hp) (a t : Nat) (j : Int32) : Option Int32 := (rV D a t j).bind asI
def rJ (D : Hp) (a t : Nat) (j : Int32) : Option Int64 := (rV D a t j).bind asJ
def wV (D : Hp) (a t : Nat) (j : Int32) (v : Value) : Option Hp := (D[a]?).bind fun ob => if ob.1 = t then (if j < 0 then none else if j.toNatClampNeg < ob.2.length then some (D.set a (t, ob.2.set j.toNatClampNeg v)) else none) else none
def lA (D : Hp) (a t : Nat) : Option Int32 := (D[a]?).bind fun ob => if ob.1 = t then some ob.2.length.toInt32 else none
def nA (D : Hp) (t : Nat) (n : Int32) (cap : Nat) (z : Value) : Option Hp := if n < 0 then none else if n.toNatClampNeg ≤ cap then some (D ++ [(t, List.replicate n.toNatClampNeg z)]) else none
def cA' (D : Hp) (a t cap : Nat) : Option Hp := (D[a]?).bind fun ob => if ob.1 = t then (if ob.2.length ≤ cap then some (D ++ [(t, ob.2)]) else none) else none
def Ob1 (K : Kt) (Z : State) (h : Heap) (n0 a t : Nat) (vs : List Value) : Prop :=
  (∀ ty, (K t).1 = .array ty → Exa Z h a ("[" ++ ty.toString) ∧ ∃ c : Cell, Arr Z h a c ty ∧ c.slots = (vs.map (sh n0)).toArray ∧ vs.length < 2 ^ 31 ∧ ∀ v ∈ vs, fits ty v = true) ∧
  (∀ C, (K t).1 = .object C → Exa Z h a C ∧ ∀ (i : Nat) (f d : String), (K t).2[i]? = some (f, d) → ∃ v : Value, vs[i]? = some v ∧ Fld Z h a C f d (sh n0 v))
def Ow (K : Kt) (Z : State) (h : Heap) (n0 : Nat) (D : Hp) : Prop := h.size = n0 + D.length ∧ ∀ (k t : Nat) (vs : List Value), D[k]? = some (t, vs) → Ob1 K Z h n0 (n0 + k) t vs
def Lay (K : Kt) (Z : State) (a0 : Array Value) : Prop := ∀ t C, (K t).1 = .object C → (∀ q ∈ (K t).2, Laid Z a0 C C q.1 q.2 ∧ ∃ ty, parseFieldDescriptor q.2 = some ty) ∧ ((K t).2.map Prod.fst).Nodup
section OwnHeap
variable {K : Kt} {Z : State} {h h' : Heap} {n0 : Nat} {D D' : Hp} {a t i : Nat} {v : Value} {j : Int32} {C f d : String} {ty : FieldType}
theorem gV_e (hg : gV D a t i = some v) : ∃ vs, D[a]? = some (t, vs) ∧ vs[i]? = some v := by
  obtain ⟨⟨t', vs⟩, h1, h2⟩ := own_bind hg
  by_cases q : t' = t
  · subst q; rw [if_pos rfl] at h2; exact ⟨vs, h1, h2⟩
  · rw [if_neg q] at h2; cases h2
theorem gI_e {x : Int32} (hg : gI D a t i = some x) : gV D a t i = some (.int x) := by
  obtain ⟨w, h1, h2⟩ := own_bind hg
  cases w <;> cases h2; exact h1
theorem gJ_e {x : Int64} (hg : gJ D a t i = some x) : gV D a t i = some (.long x) := by
  obtain ⟨w, h1, h2⟩ := own_bind hg
  cases w <;> cases h2; exact h1
theorem gR_e {x : Nat} (hg : gR D a t i = some x) : gV D a t i = some (.ref x) := by
  obtain ⟨w, h1, h2⟩ := own_bind hg
  cases w <;> cases h2; exact h1
theorem ck_e {q : Nat} (hg : ck D a t = some q) : ∃ vs, D[a]? = some (t, vs) := by
  obtain ⟨⟨t', vs⟩, h1, h2⟩ := own_bind hg
  by_cases q : t' = t
  · subst q; exact ⟨vs, h1⟩
  · rw [if_neg q] at h2; cases h2
theorem rV_e (hg : rV D a t j = some v) : ∃ vs, D[a]? = some (t, vs) ∧ ¬ j < 0 ∧ vs[j.toNatClampNeg]? = some v := by
  obtain ⟨⟨t', vs⟩, h1, h2⟩ := own_bind hg
  by_cases q : t' = t
  · subst q; rw [if_pos rfl] at h2
    by_cases r : j < 0
    · rw [if_pos r] at h2; cases h2
    · rw [if_neg r] at h2; exact ⟨vs, h1, r, h2⟩
  · rw [if_neg q] at h2; cases h2
theorem rI_e {x : Int32} (hg : rI D a t j = some x) : rV D a t j = some (.int x) := by
  obtain ⟨w, h1, h2⟩ := own_bind hg
  cases w <;> cases h2; exact h1
theorem rJ_e {x : Int64} (hg : rJ D a t j = some x) : rV D a t j = some (.long x) := by
  obtain ⟨w, h1, h2⟩ := own_bind hg
  cases w <;> cases h2; exact h1
theorem wV_e (hg : wV D a t j v = some D') : ∃ vs, D[a]? = some (t, vs) ∧ ¬ j < 0 ∧ j.toNatClampNeg < vs.length ∧ D' = D.set a (t, vs.set j.toNatClampNeg v) := by
  obtain ⟨⟨t', vs⟩, h1, h2⟩ := own_bind hg
  by_cases q : t' = t
  · subst q; rw [if_pos rfl] at h2
    by_cases r : j < 0
    · rw [if_pos r] at h2; cases h2
    · rw [if_neg r] at h2
      by_cases u : j.toNatClampNeg < vs.length
      · rw [if_pos u] at h2; cases h2; exact ⟨vs, h1, r, u, rfl⟩
      · rw [if_neg u] at h2; cases h2
  · rw [if_neg q] at h2; cases h2
theorem pV_e (hg : pV D a t i v = some D') : ∃ vs, D[a]? = some (t, vs) ∧ i < vs.length ∧ D' = D.set a (t, vs.set i v) := by
  obtain ⟨⟨t', vs⟩, h1, h2⟩ := own_bind hg
  by_cases q : t' = t
  · subst q; rw [if_pos rfl] at h2
    by_cases u : i < vs.length
    · rw [if_pos u] at h2; cases h2; exact ⟨vs, h1, u, rfl⟩
    · rw [if_neg u] at h2; cases h2
  · rw [if_neg q] at h2; cases h2
theorem cA_e {cap : Nat} (hg : cA' D a t cap = some D') : ∃ vs, D[a]? = some (t, vs) ∧ vs.length ≤ cap ∧ D' = D ++ [(t, vs)] := by
  obtain ⟨⟨t', vs⟩, h1, h2⟩ := own_bind hg
  by_cases q : t' = t
  · subst q; rw [if_pos rfl] at h2
    by_cases u : vs.length ≤ cap
    · rw [if_pos u] at h2; cases h2; exact ⟨vs, h1, u, rfl⟩
    · rw [if_neg u] at h2; cases h2
  · rw [if_neg q] at h2; cases h2
theorem lA_e {x : Int32} (hg : lA D a t = some x) : ∃ vs, D[a]? = some (t, vs) ∧ x = vs.length.toInt32 := by
  obtain ⟨⟨t', vs⟩, h1, h2⟩ := own_bind hg
  by_cases q : t' = t
  · subst q; rw [if_pos rfl] at h2; cases h2; exact ⟨vs, h1, rfl⟩
  · rw [if_neg q] at h2; cases h2
theorem Ow.fld (O : Ow K Z h n0 D) (hg : gV D a t i = some v) (hK : (K t).1 = .object C) (hf : (K t).2[i]? = some (f, d)) : Fld Z h (n0 + a) C f d (sh n0 v) := by
  obtain ⟨vs, h1, h2⟩ := gV_e hg
  obtain ⟨w, h3, h4⟩ := ((O.2 a t vs h1).2 C hK).2 i f d hf
  cases h2.symm.trans h3; exact h4
theorem Ow.fld0 (O : Ow K Z h n0 D) (hg : pV D a t i v = some D') (hK : (K t).1 = .object C) (hf : (K t).2[i]? = some (f, d)) : ∃ w, Fld Z h (n0 + a) C f d w := by
  obtain ⟨vs, h1, h2, -⟩ := pV_e hg
  obtain ⟨w, h3, h4⟩ := ((O.2 a t vs h1).2 C hK).2 i f d hf
  exact ⟨_, h4⟩
theorem Ow.exa (O : Ow K Z h n0 D) {vs : List Value} (hg : D[a]? = some (t, vs)) (hK : (K t).1 = .object C) : Exa Z h (n0 + a) C := ((O.2 a t vs hg).2 C hK).1
theorem Ow.exaC (O : Ow K Z h n0 D) {q : Nat} (hg : ck D a t = some q) (hK : (K t).1 = .object C) : Exa Z h (n0 + a) C := by
  obtain ⟨vs, h1⟩ := ck_e hg; exact O.exa h1 hK
theorem Ow.exaP (O : Ow K Z h n0 D) (hg : pV D a t i v = some D') (hK : (K t).1 = .object C) : Exa Z h (n0 + a) C := by
  obtain ⟨vs, h1, -⟩ := pV_e hg; exact O.exa h1 hK
theorem sh_len (vs : List Value) : ((vs.map (sh n0)).toArray).size = vs.length := by simp
/-- the array at a, its cell, that the place j lies in it and what it holds -/
theorem Ow.arrR (O : Ow K Z h n0 D) (hg : rV D a t j = some v) (hK : (K t).1 = .array ty) : ∃ c : Cell, Arr Z h (n0 + a) c ty ∧ ¬ (j < 0 ∨ c.slots.size ≤ j.toNatClampNeg) ∧ c.slots[j.toNatClampNeg]? = some (sh n0 v) := by
  obtain ⟨vs, h1, h2, h3⟩ := rV_e hg
  obtain ⟨-, c, A, hs, -, -⟩ := (O.2 a t vs h1).1 ty hK
  have hlt := (List.getElem?_eq_some_iff.mp h3).1
  refine ⟨c, A, ?_, ?_⟩
  · rw [hs, sh_len]; intro q; rcases q with q | q
    · exact h2 q
    · omega
  · rw [hs]; simp [h3]
theorem Ow.arrL (O : Ow K Z h n0 D) {x : Int32} (hg : lA D a t = some x) (hK : (K t).1 = .array ty) : ∃ c : Cell, Arr Z h (n0 + a) c ty ∧ c.slots.size.toInt32 = x := by
  obtain ⟨vs, h1, h2⟩ := lA_e hg
  obtain ⟨-, c, A, hs, -, -⟩ := (O.2 a t vs h1).1 ty hK
  exact ⟨c, A, by rw [hs, sh_len, h2]⟩
theorem Ow.arrW (O : Ow K Z h n0 D) (hg : wV D a t j v = some D') (hK : (K t).1 = .array ty) : ∃ c : Cell, Arr Z h (n0 + a) c ty ∧ ¬ (j < 0 ∨ c.slots.size ≤ j.toNatClampNeg) := by
  obtain ⟨vs, h1, h2, h3, -⟩ := wV_e hg
  obtain ⟨-, c, A, hs, -, -⟩ := (O.2 a t vs h1).1 ty hK
  refine ⟨c, A, ?_⟩
  rw [hs, sh_len]; intro q; rcases q with q | q
  · exact h2 q
  · omega
theorem own_get_set {k : Nat} {ob ob' : Nat × List Value} (hk : (D.set a ob)[k]? = some ob') : (k = a ∧ ob' = ob ∧ a < D.length) ∨ (k ≠ a ∧ D[k]? = some ob') := by
  by_cases q : k = a
  · subst q
    rw [List.getElem?_set] at hk
    simp only [if_true] at hk
    by_cases r : k < D.length
    · rw [if_pos r] at hk; cases hk; exact Or.inl ⟨rfl, rfl, r⟩
    · rw [if_neg r] at hk; cases hk
  · rw [List.getElem?_set_ne (Ne.symm q)] at hk; exact Or.inr ⟨q, hk⟩
theorem Ob1.other {x y k : Nat} {vs : List Value} {w : Value} {sl : Nat} (B : Ob1 K Z h n0 x k vs) (W : Wr h h' y sl w) (hne : x ≠ y) : Ob1 K Z h' n0 x k vs := by
  refine ⟨fun ty hK => ?_, fun C hK => ?_⟩
  · obtain ⟨E, c, A, r⟩ := B.1 ty hK
    exact ⟨E.wr W, c, A.other W hne, r⟩
  · obtain ⟨E, F⟩ := B.2 C hK
    refine ⟨E.wr W, fun i f d hi => ?_⟩
    obtain ⟨v, h1, h2⟩ := F i f d hi
    exact ⟨v, h1, h2.other W (Or.inl hne)⟩
theorem Ow.st (O : Ow K Z h n0 D) (hg : wV D a t j v = some D') (hK : (K t).1 = .array ty) (hfit : fits ty v = true) (W : Wr h h' (n0 + a) j.toNatClampNeg (sh n0 v)) : Ow K Z h' n0 D' := by
  obtain ⟨vs, h1, h2, h3, rfl⟩ := wV_e hg
  refine ⟨by rw [W.size, O.1, List.length_set], fun k t' vs' hk => ?_⟩
  rcases own_get_set hk with ⟨rfl, e, -⟩ | ⟨hne, hk'⟩
  · cases e
    refine ⟨fun ty' hK' => ?_, fun C hK' => ?_⟩
    · cases hK.symm.trans hK'
      obtain ⟨E, c, A, hs, hl, hf⟩ := (O.2 _ _ vs h1).1 _ hK
      refine ⟨E.wr W, _, A.same W, ?_, by rw [List.length_set]; exact hl, fun w hw => ?_⟩
      · simp only [Cell.setSlot, hs]
        rw [List.map_set]
        simp
      · rcases List.mem_or_eq_of_mem_set hw with q | q
        · exact hf w q
        · rw [q]; exact hfit
    · rw [hK] at hK'; cases hK'
  · exact (O.2 k t' vs' hk').other W (by omega)
theorem Ow.put {a0 : Array Value} (O : Ow K Z h n0 D) (hL : Lay K Z a0) (hg : pV D a t i v = some D') (hK : (K t).1 = .object C) (hf : (K t).2[i]? = some (f, d)) (W : Wr h h' (n0 + a) (Jvm.RoadKit.slotOf Z C f d) (sh n0 v)) : Ow K Z h' n0 D' := by
  obtain ⟨vs, h1, h3, rfl⟩ := pV_e hg
  refine ⟨by rw [W.size, O.1, List.length_set], fun k t' vs' hk => ?_⟩
  rcases own_get_set hk with ⟨rfl, e, -⟩ | ⟨hne, hk'⟩
  · cases e
    refine ⟨fun ty' hK' => (by rw [hK] at hK'; cases hK'), fun C' hK' => ?_⟩
    cases hK.symm.trans hK'
    obtain ⟨E, F⟩ := (O.2 _ _ vs h1).2 _ hK
    refine ⟨E.wr W, fun i' f' d' hi' => ?_⟩
    obtain ⟨w, g1, g2⟩ := F i' f' d' hi'
    by_cases q : i' = i
    · subst q
      cases hf.symm.trans hi'
      exact ⟨v, by rw [List.getElem?_set]; simp [h3], g2.same W⟩
    · refine ⟨w, by rw [List.getElem?_set_ne (Ne.symm q)]; exact g1, g2.other W (Or.inr ?_)⟩
      obtain ⟨hl, hn⟩ := hL t C hK
      obtain ⟨l1, ty1, p1⟩ := hl _ (List.mem_of_getElem? hf)
      obtain ⟨l2, ty2, p2⟩ := hl _ (List.mem_of_getElem? hi')
      refine slot_ne l2 l1 (fun e => q ?_) p2 p1
      have m1 : ((K t).2.map Prod.fst)[i]? = some f := by rw [List.getElem?_map, hf]; rfl
      have m2 : ((K t).2.map Prod.fst)[i']? = some f' := by rw [List.getElem?_map, hi']; rfl
      obtain ⟨b1, c1⟩ := List.getElem?_eq_some_iff.mp m1
      obtain ⟨b2, c2⟩ := List.getElem?_eq_some_iff.mp m2
      exact (List.getElem_inj hn).mp (by rw [c1, c2]; exact e)
  · exact (O.2 k t' vs' hk').other W (by omega)
theorem Ob1.ext {x k : Nat} {vs : List Value} (B : Ob1 K Z h n0 x k vs) (E : Ext h h') : Ob1 K Z h' n0 x k vs := by
  refine ⟨fun ty hK => ?_, fun C hK => ?_⟩
  · obtain ⟨F, c, A, r⟩ := B.1 ty hK
    exact ⟨F.ext E, c, A.ext E, r⟩
  · obtain ⟨X, F⟩ := B.2 C hK
    refine ⟨X.ext E, fun i f d hi => ?_⟩
    obtain ⟨v, h1, h2⟩ := F i f d hi
    exact ⟨v, h1, h2.ext E⟩
theorem Ow.push {vs : List Value} (O : Ow K Z h n0 D) (E : Ext h h') (hsz : h'.size = h.size + 1) (B : Ob1 K Z h' n0 (n0 + D.length) t vs) : Ow K Z h' n0 (D ++ [(t, vs)]) := by
  refine ⟨by rw [hsz, O.1, List.length_append]; rfl, fun k t' vs' hk => ?_⟩
  by_cases q : k < D.length
  · rw [List.getElem?_append_left q] at hk; exact (O.2 k t' vs' hk).ext E
  · rw [List.getElem?_append_right (Nat.le_of_not_lt q)] at hk
    have e : k - D.length = 0 := by
      have := (List.getElem?_eq_some_iff.mp hk).1
      simp only [List.length_singleton] at this; omega
    rw [e] at hk
    have hk2 : (t, vs) = (t', vs') := Option.some.inj hk
    cases hk2
    have : k = D.length := by omega
    rw [this]; exact B
theorem sh_default (ty : FieldType) : sh n0 (defaultValue ty) = defaultValue ty := by cases ty <;> rfl
theorem own_ow0 (h : Heap) : Ow K Z h h.size [] := ⟨by simp, fun k t vs hk => by simp at hk⟩
end OwnHeap
/-! 3. the laws of the library, over that list -/
section OwnLaws
variable {p : Program} {l : Launch} {e : Env} {R : Room} {s : State} {m : MethodId} {args : Array Value} {below : List Frame} {meth : Method} {c : Code} {T : State} {locs : List Loc} {cells slots : Nat} {Z : State} {a0 : Array Value} {h : Heap} {K : Kt} {n0 : Nat} {D D' : Hp} {a t : Nat}
theorem ldW (X : Stand p l e R s m args below meth c T locs cells slots) (hx : p.tables.exec = Jvm.exec) (hZ : Z.Warmed39 s.vm) (eT : T.heap = h) (O : Ow K Z h n0 D) {j : Int32} {x : Int32} (hg : rI D a t j = some x) (hK : (K t).1 = .array .int)
    {g : JFrame} (hgm : g.method = m) {rest : List Value} (hs : g.stack = .int j :: .ref (n0 + a) :: rest) (hd : decode c.code g.pc = .ok (.iaload, 1)) (target : State)
    (hr : Steps p.tables e below (T.setTop { g with pc := g.pc + 1, stack := .int x :: rest }) target) : Steps p.tables e below (T.setTop g) target := by
  obtain ⟨cl, A, hin, hat⟩ := O.arrR (rI_e hg) hK
  exact X.iaload hx (v := .int x) (by rw [eT]; exact A.1) (State.isArrayOf_alike hZ.alike A.2.1) A.2.2 hin hat hgm hs hd target hr
theorem ldB (X : Stand p l e R s m args below meth c T locs cells slots) (hx : p.tables.exec = Jvm.exec) (hZ : Z.Warmed39 s.vm) (eT : T.heap = h) (O : Ow K Z h n0 D) {j : Int32} {x : Int32} (hg : rI D a t j = some x) (hK : (K t).1 = .array .byte)
    {g : JFrame} (hgm : g.method = m) {rest : List Value} (hs : g.stack = .int j :: .ref (n0 + a) :: rest) (hd : decode c.code g.pc = .ok (.baload, 1)) (target : State)
    (hr : Steps p.tables e below (T.setTop { g with pc := g.pc + 1, stack := .int x :: rest }) target) : Steps p.tables e below (T.setTop g) target := by
  obtain ⟨cl, A, hin, hat⟩ := O.arrR (rI_e hg) hK
  exact X.baloadBytes hx (v := .int x) (by rw [eT]; exact A.1) (State.isArrayOf_alike hZ.alike A.2.1) A.2.2 hin hat hgm hs hd target hr
theorem ldJ (X : Stand p l e R s m args below meth c T locs cells slots) (hx : p.tables.exec = Jvm.exec) (hZ : Z.Warmed39 s.vm) (eT : T.heap = h) (O : Ow K Z h n0 D) {j : Int32} {x : Int64} (hg : rJ D a t j = some x) (hK : (K t).1 = .array .long)
    {g : JFrame} (hgm : g.method = m) {rest : List Value} (hs : g.stack = .int j :: .ref (n0 + a) :: rest) (hd : decode c.code g.pc = .ok (.laload, 1)) (target : State)
    (hr : Steps p.tables e below (T.setTop { g with pc := g.pc + 1, stack := .long x :: rest }) target) : Steps p.tables e below (T.setTop g) target := by
  obtain ⟨cl, A, hin, hat⟩ := O.arrR (rJ_e hg) hK
  exact X.laload hx (v := .long x) (by rw [eT]; exact A.1) (State.isArrayOf_alike hZ.alike A.2.1) A.2.2 hin hat hgm hs hd target hr
theorem lenW' (X : Stand p l e R s m args below meth c T locs cells slots) (hx : p.tables.exec = Jvm.exec) (hZ : Z.Warmed39 s.vm) (eT : T.heap = h) (O : Ow K Z h n0 D) {x : Int32} (hg : lA D a t = some x) {ty : FieldType} (hK : (K t).1 = .array ty)
    {g : JFrame} (hgm : g.method = m) {rest : List Value} (hs : g.stack = .ref (n0 + a) :: rest) (hd : decode c.code g.pc = .ok (.arraylength, 1)) (target : State)
    (hr : Steps p.tables e below (T.setTop { g with pc := g.pc + 1, stack := .int x :: rest }) target) : Steps p.tables e below (T.setTop g) target := by
  obtain ⟨cl, A, hl⟩ := O.arrL hg hK
  subst hl
  exact X.arraylength hx (by rw [eT]; exact A.1) (State.isArrayOf_alike hZ.alike A.2.1) hgm hs hd target hr
theorem stIW (X : Stand p l e R s m args below meth c T locs cells slots) (hx : p.tables.exec = Jvm.exec) (hZ : Z.Warmed39 s.vm) (eT : T.heap = h) (O : Ow K Z h n0 D) (N : Fr n0 locs) {j x : Int32} (hg : wV D a t j (.int x) = some D') (hK : (K t).1 = .array .int)
    {g : JFrame} (hgm : g.method = m) {rest : List Value} (hs : g.stack = .int x :: .int j :: .ref (n0 + a) :: rest) (hd : decode c.code g.pc = .ok (.iastore, 1)) :
    ∃ T' h' L, Stand p l e R s m args below meth c T' L cells slots ∧ T'.heap = h' ∧ Ow K Z h' n0 D' ∧ Fr n0 L ∧ ∀ target, Steps p.tables e below (T'.setTop { g with pc := g.pc + 1, stack := rest }) target → Steps p.tables e below (T.setTop g) target := by
  obtain ⟨cl, A, hin⟩ := O.arrW hg hK
  obtain ⟨T', h', X', e', W, st⟩ := stI X hx hZ eT A hin hgm hs hd
  exact ⟨T', h', _, X', e', O.st hg hK rfl W, Fr.snoc X' N (Nat.le_add_right _ _), st⟩
theorem stBW (X : Stand p l e R s m args below meth c T locs cells slots) (hx : p.tables.exec = Jvm.exec) (hZ : Z.Warmed39 s.vm) (eT : T.heap = h) (O : Ow K Z h n0 D) (N : Fr n0 locs) {j x : Int32} (hg : wV D a t j (.int x.toInt8.toInt32) = some D') (hK : (K t).1 = .array .byte)
    {g : JFrame} (hgm : g.method = m) {rest : List Value} (hs : g.stack = .int x :: .int j :: .ref (n0 + a) :: rest) (hd : decode c.code g.pc = .ok (.bastore, 1)) :
    ∃ T' h' L, Stand p l e R s m args below meth c T' L cells slots ∧ T'.heap = h' ∧ Ow K Z h' n0 D' ∧ Fr n0 L ∧ ∀ target, Steps p.tables e below (T'.setTop { g with pc := g.pc + 1, stack := rest }) target → Steps p.tables e below (T.setTop g) target := by
  obtain ⟨cl, A, hin⟩ := O.arrW hg hK
  obtain ⟨T', h', X', e', W, st⟩ := stB X hx hZ eT A hin hgm hs hd
  exact ⟨T', h', _, X', e', O.st hg hK (fits_nar_byte _) W, Fr.snoc X' N (Nat.le_add_right _ _), st⟩
theorem stJW (X : Stand p l e R s m args below meth c T locs cells slots) (hx : p.tables.exec = Jvm.exec) (hZ : Z.Warmed39 s.vm) (eT : T.heap = h) (O : Ow K Z h n0 D) (N : Fr n0 locs) {j : Int32} {x : Int64} (hg : wV D a t j (.long x) = some D') (hK : (K t).1 = .array .long)
    {g : JFrame} (hgm : g.method = m) {rest : List Value} (hs : g.stack = .long x :: .int j :: .ref (n0 + a) :: rest) (hd : decode c.code g.pc = .ok (.lastore, 1)) :
    ∃ T' h' L, Stand p l e R s m args below meth c T' L cells slots ∧ T'.heap = h' ∧ Ow K Z h' n0 D' ∧ Fr n0 L ∧ ∀ target, Steps p.tables e below (T'.setTop { g with pc := g.pc + 1, stack := rest }) target → Steps p.tables e below (T.setTop g) target := by
  obtain ⟨cl, A, hin⟩ := O.arrW hg hK
  obtain ⟨T', h', X', e', W, st⟩ := stJ X hx hZ eT A hin hgm hs hd
  exact ⟨T', h', _, X', e', O.st hg hK rfl W, Fr.snoc X' N (Nat.le_add_right _ _), st⟩
theorem putW (X : Stand p l e R s m args below meth c T locs cells slots) (hx : p.tables.exec = Jvm.exec) (hZ : Z.Warmed39 s.vm) {own C f d : String} {index kk i : Nat} {ty : FieldType} (hown : s.vm.findClass own = some m.cls) (w : (Cond.fieldLink own index C f d).before a0 Z = true) (hL : Lay K Z a0)
    (eT : T.heap = h) (O : Ow K Z h n0 D) (N : Fr n0 locs) {v : Value} (hg : pV D a t i v = some D') (hK : (K t).1 = .object C) (hf : (K t).2[i]? = some (f, d)) (L : (Cond.lays C C f d).before a0 Z = true ∨ ((Cond.laysFinal C C f d).before a0 Z = true ∧ own = C ∧ meth.name = "<init>")) (wi : (Cond.instantiable C kk).before a0 Z = true)
    (hty : parseFieldDescriptor d = some ty) (hn : narrow ty (sh n0 v) = sh n0 v) (hfit : fits ty (sh n0 v) = true) {g : JFrame} (hgm : g.method = m) {rest : List Value} (hs : g.stack = sh n0 v :: .ref (n0 + a) :: rest) (hd : decode c.code g.pc = .ok (.putfield index, 3)) :
    ∃ T' h' L, Stand p l e R s m args below meth c T' L cells slots ∧ T'.heap = h' ∧ Ow K Z h' n0 D' ∧ Fr n0 L ∧ ∀ target, Steps p.tables e below (T'.setTop { g with pc := g.pc + 3, stack := rest }) target → Steps p.tables e below (T.setTop g) target := by
  obtain ⟨old, F⟩ := O.fld0 hg hK hf
  obtain ⟨T', h', X', e', W, st⟩ := putF X hx hZ hown (host := "") (Or.inl w) Via.refl eT F (O.exaP hg hK) L wi hty hn hfit hgm hs hd
  exact ⟨T', h', _, X', e', O.put hL hg hK hf W, Fr.snoc X' N (Nat.le_add_right _ _), st⟩
theorem newW (X : Stand p l e R s m args below meth c T locs cells slots) (hx : p.tables.exec = Jvm.exec) (hZ : Z.Warmed39 s.vm) {own C : String} {index n : Nat} (hown : s.vm.findClass own = some m.cls) (w : (Cond.classLink own index C).before a0 Z = true) (wi : (Cond.instantiable C n).before a0 Z = true) (wz : (Cond.initialized C).before a0 Z = true) (hL : Lay K Z a0) (eT : T.heap = h) (O : Ow K Z h n0 D)
    (hK : (K t).1 = .object C) {ds : List Value} (hds : ∀ q ∈ (K t).2.zipIdx, ∃ ty, parseFieldDescriptor q.1.2 = some ty ∧ ds[q.2]? = some (defaultValue ty)) {g : JFrame} (hg : g.method = m) (hd : decode c.code g.pc = .ok (.new index, 3)) (hc : cells + 1 ≤ R.cells) (hl : slots + n ≤ R.slots) :
    ∃ T' h', Stand p l e R s m args below meth c T' locs (cells + 1) (slots + n) ∧ T'.heap = h' ∧ Ow K Z h' n0 (D ++ [(t, ds)]) ∧ ∀ target, Steps p.tables e below (T'.setTop { g with pc := g.pc + 3, stack := .ref (n0 + D.length) :: g.stack }) target → Steps p.tables e below (T.setTop g) target := by
  obtain ⟨vm', cC, kC, h1, h2, h3, h4, X', st⟩ := X.newCold hx hown (mv hZ w) (mv hZ wi) (mv hZ wz) hg hd hc hl
  subst eT
  rw [hZ.alike.findClass] at h1
  obtain ⟨kZ, z1, -⟩ := Vm.findClass_spec h1
  obtain ⟨k', z2, z3⟩ := hZ.alike.2.2 _ _ z1
  cases h2.symm.trans z2
  have ei : kC.instanceTypes = kZ.instanceTypes := by rw [z3]
  have hN : (T.heap.push { cls := cC, slots := kC.instanceTypes.map defaultValue, vm := .none })[T.heap.size]? = some { cls := cC, slots := kC.instanceTypes.map defaultValue, vm := .none } := by simp
  have E : Ext T.heap (T.heap.push { cls := cC, slots := kC.instanceTypes.map defaultValue, vm := .none }) := ⟨by simp, fun a c h => by
    rw [Array.getElem?_push_lt (Array.getElem?_eq_some_iff.mp h).1]; exact (Array.getElem?_eq_getElem _).symm.trans h⟩
  have hsz := O.1
  refine ⟨_, _, X', rfl, O.push E (by simp) ⟨fun ty hK' => (by rw [hK] at hK'; cases hK'), fun C' hK' => ?_⟩, by rw [← hsz]; exact st⟩
  cases hK.symm.trans hK'
  rw [← hsz]
  refine ⟨⟨_, kZ, hN, h1, z1, rfl, fun _ => by simp [ei]⟩, fun i f d hi => ?_⟩
  obtain ⟨ty, t1, t2⟩ := hds ((f, d), i) (List.mem_zipIdx_iff_getElem?.mpr hi)
  refine ⟨_, t2, ?_⟩
  rw [sh_default]
  obtain ⟨c1, k1, cf, kf, i', f', a1, a2, a3, a4, a5, a6, -⟩ := ((hL t C hK).1 _ (List.mem_of_getElem? hi)).1.spec
  cases h1.symm.trans a1
  cases z1.symm.trans a2
  exact ⟨_, cf, kf, i', f', hN, a3, a4, by simp, rfl, a5, by simp [ei, a6, (State.fieldFound?_type a3 t1).2]⟩
theorem newAW (X : Stand p l e R s m args below meth c T locs cells slots) (hx : p.tables.exec = Jvm.exec) (hZ : Z.Warmed39 s.vm) {aty : ArrayType} (w : (Cond.arrayClass (newarray.typeOf aty)).before a0 Z = true) (eT : T.heap = h) (O : Ow K Z h n0 D) (hK : (K t).1 = .array (newarray.typeOf aty))
    {n : Int32} {cap : Nat} {z : Value} (hz : z = defaultValue (newarray.typeOf aty)) (hn : nA D t n cap z = some D') {g : JFrame} (hg : g.method = m) (hd : decode c.code g.pc = .ok (.newarray aty, 2)) {rest : List Value} (hs : g.stack = .int n :: rest)
    (hb : cap * 8 ≤ 536870912) (hc : cells + 1 ≤ R.cells) (hl : slots + cap ≤ R.slots) :
    ∃ T' h', Stand p l e R s m args below meth c T' locs (cells + 1) (slots + cap) ∧ T'.heap = h' ∧ Ow K Z h' n0 D' ∧ ∀ target, Steps p.tables e below (T'.setTop { g with pc := g.pc + 2, stack := .ref (n0 + D.length) :: rest }) target → Steps p.tables e below (T.setTop g) target := by
  have hcb : componentBytes (newarray.typeOf aty) ≤ 8 := by cases aty <;> decide
  by_cases q : n < 0
  · simp only [nA, if_pos q] at hn; cases hn
  simp only [nA, if_neg q] at hn
  by_cases hcap : n.toNatClampNeg ≤ cap
  · rw [if_pos hcap] at hn
    cases hn
    obtain ⟨cA, kA, comp, h1, h2, h3, X', st⟩ := X.newarrayPrim hx (mvA hZ w) hg hd hs q (Nat.le_trans (Nat.mul_le_mul hcap hcb) hb) hc (by omega)
    subst eT
    rw [hZ.alike.findClass] at h1
    obtain ⟨kZ, z1, -⟩ := Vm.findClass_spec h1
    obtain ⟨k', z2, z3⟩ := hZ.alike.2.2 _ _ z1
    cases h2.symm.trans z2
    have hsz := O.1
    refine ⟨_, _, X'.more (Nat.le_refl _) (by omega), rfl, O.push (h' := T.heap.push _) ⟨by simp, fun a c h => ?_⟩ (by simp) ⟨fun ty hK' => ?_, fun C hK' => by rw [hK] at hK'; cases hK'⟩, by rw [← hsz]; exact st⟩
    · rw [Array.getElem?_push_lt (Array.getElem?_eq_some_iff.mp h).1]; exact (Array.getElem?_eq_getElem _).symm.trans h
    · cases hK.symm.trans hK'
      rw [← hsz]
      have ek : kZ.kind = .array comp (newarray.typeOf aty) := by rw [← h3, z3]
      refine ⟨⟨_, kZ, Array.getElem?_push_size, h1, z1, rfl, fun q => by rw [ek] at q; cases q⟩, _, ⟨Array.getElem?_push_size, ⟨by simp, kZ, z1, comp, ek⟩, by simp⟩, ?_, ?_, fun v hv => ?_⟩
      · rw [hz, List.map_replicate, sh_default]; simp
      · rw [List.length_replicate]; exact (back32 q).2
      · rw [(List.mem_replicate.mp hv).2, hz]; cases aty <;> rfl
  · rw [if_neg hcap] at hn; cases hn
/-! 4. contracts and calls -/
def Qw (K : Kt) (Z : State) (n0 : Nat) (r : Option Value) (D' : Hp) : Option Value → Heap → List Loc → Prop := fun v h L => v = r ∧ Fr n0 L ∧ Ow K Z h n0 D'
def Ct (K : Kt) (l : Launch) (Z : State) (y : MethodName) (cw : Jvm.Cond) (rm : Room) (n0 : Nat) (D : Hp) (as' : Array Value) (r : Option Value) (D' : Hp) : Prop :=
  ∀ (h0 : Heap) (ws : List Jvm.Cond), Ow K Z h0 n0 D → MetFree l y (head1 (cw :: ws) rm) (fun a U => a = as' ∧ Z.Warmed39 U.vm ∧ U.heap = h0) (fun _ _ _ _ _ => True) (fun _ U o U' => ∃ v L, o = .returned v ∧ Qw K Z n0 r D' v U'.heap L ∧ FrameEnd U o U' L rm.cells rm.slots)
/-- what stands still through a body -/
def Cx (p : Program) (s : State) (m : MethodId) (meth : Method) (c : Code) (Z : State) (bytes : ByteArray) (maxL : Nat) (ret : Option FieldType) (own nm : String) : Prop :=
  p.tables.exec = Jvm.exec ∧ Z.Warmed39 s.vm ∧ c.code = bytes ∧ c.maxLocals = maxL ∧ s.vm.findClass own = some m.cls ∧ meth.name = nm ∧ meth.sig.returnType = ret ∧ meth.locks = false
variable {y : MethodName} {bytes : ByteArray} {maxL : Nat} {ret : Option FieldType} {rm : Room} {r : Option Value}
theorem Ct.of {as' : Array Value} (hpl : plainFor y = true) (body : ∀ (p : Program) (e : Env) (s : State) (m : MethodId) (below : List Frame) (meth : Method) (c : Code) (s₁ : State) (h0 : Heap), Cx p s m meth c Z bytes maxL ret y.cls y.name → Stand p l e rm s m as' below meth c s₁ [] 0 0 → s₁.heap = h0 → Ow K Z h0 n0 D →
      Gl p e below s rm.cells rm.slots (Qw K Z n0 r D') (s₁.setTop (entryFrame m as' maxL))) : Ct K l Z y (.code y bytes maxL ret) rm n0 D as' r D' := by
  intro h0 ws O
  refine MetFree.of_bodySF hpl hisR ?_
  intro p e s m args below meth c s₁ Bd hml0 hP hK
  obtain ⟨rfl, hZ, hh⟩ := hP
  exact body p e s m below meth c s₁ h0 ⟨Bd.exec, hZ, Bd.bytes, hml0, findClass_of_methodNamed Bd.named, (name_of_methodNamed Bd.named Bd.method).1, Bd.returns, BodyLoose.notSynchronized Bd⟩ (Stand.of_body Bd) (by rw [← hh, Bd.state]; rfl) O
theorem Ct.ofH {as' : Array Value} {hs : List (Nat × Nat × Nat × Nat)} (hpl : plainFor y = true) (body : ∀ (p : Program) (e : Env) (s : State) (m : MethodId) (below : List Frame) (meth : Method) (c : Code) (s₁ : State) (h0 : Heap), Cx p s m meth c Z bytes maxL ret y.cls y.name → Stand p l e rm s m as' below meth c s₁ [] 0 0 → s₁.heap = h0 → Ow K Z h0 n0 D →
      Gl p e below s rm.cells rm.slots (Qw K Z n0 r D') (s₁.setTop (entryFrame m as' maxL))) : Ct K l Z y (.codeWith y bytes maxL ret hs) rm n0 D as' r D' := by
  intro h0 ws O
  refine MetFree.of_bodySF hpl hisWith ?_
  intro p e s m args below meth c s₁ Bd hml0 hP hK
  obtain ⟨rfl, hZ, hh⟩ := hP
  exact body p e s m below meth c s₁ h0 ⟨Bd.exec, hZ, Bd.bytes, hml0, findClass_of_methodNamed Bd.named, (name_of_methodNamed Bd.named Bd.method).1, Bd.returns, BodyLoose.notSynchronized Bd⟩ (Stand.of_body Bd) (by rw [← hh, Bd.state]; rfl) O
theorem callSW (X : Stand p l e R s m args below meth c T locs cells slots) (hx : p.tables.exec = Jvm.exec) (hZ : Z.Warmed39 s.vm) {own : String} {index : Nat} (hown : s.vm.findClass own = some m.cls) (w1 : (Cond.methodLink own index y).before a0 Z = true) (w2 : (Cond.static y).before a0 Z = true) (w3 : (Cond.initialized y.cls).before a0 Z = true) (w4 : (Cond.code y bytes maxL ret).before a0 Z = true)
    (hy : y.cls ≠ "java/lang/invoke/MethodHandle" ∧ y.cls ≠ "java/lang/invoke/VarHandle") (eT : T.heap = h) (O : Ow K Z h n0 D) (N : Fr n0 locs) {as' : List Value} (hM : Ct K l Z y (.code y bytes maxL ret) rm n0 D as'.toArray r D') {W kc ks : Nat} (hkc : rm.cells = kc) (hks : rm.slots = ks) (hf : rm.frames + 1 ≤ R.frames) (hl : W + (maxL + 11) + rm.locals ≤ R.locals)
    {g : JFrame} (hg : g.method = m) (hsize : g.locals.size = c.maxLocals) {rest : List Value} (hlen : ∀ sig, parseMethodDescriptor y.desc = some sig → as'.length = sig.parameters.length) (hs : g.stack = as'.reverse ++ rest) (hW : 2 * g.monitorRoom + (rest.map fun v => v.category).sum ≤ W) (hd : decode c.code g.pc = .ok (.invokestatic index, 3)) (hc : cells + kc ≤ R.cells) (hsl : slots + ks ≤ R.slots) :
    ∃ T' h' L, Stand p l e R s m args below meth c T' L (cells + kc) (slots + ks) ∧ T'.heap = h' ∧ Ow K Z h' n0 D' ∧ Fr n0 L ∧ ∀ target, Steps p.tables e below (T'.setTop { g with pc := g.pc + 3, stack := r.toList ++ rest }) target → Steps p.tables e below (T.setTop g) target := by
  subst hkc hks
  obtain ⟨_, _, ⟨T', L', k', n'⟩, -, X', ⟨Lc, hQ, hL, hk, hn⟩, st⟩ := Jvm.LawKit.callS X hx hown (mvT hZ w1) (mvT hZ w2) (mvT hZ w3) (mvT hZ w4) hy (backOf (W := W) (hM h [] O) hZ w4 w3 hf hl) hg hsize (argsL := as') hlen hs hW hd (fun _ _ => ⟨rfl, eT, hc, hsl⟩)
  dsimp only [Pt.U, Pt.locs, Pt.cells, Pt.slots] at X' hL hk hn st hQ
  subst hL hk hn
  obtain ⟨rfl, N', O'⟩ := hQ
  exact ⟨T', _, _, X', rfl, O', N.app N', st⟩
theorem callSHW (X : Stand p l e R s m args below meth c T locs cells slots) (hx : p.tables.exec = Jvm.exec) (hZ : Z.Warmed39 s.vm) {own : String} {index : Nat} {hs' : List (Nat × Nat × Nat × Nat)} (hown : s.vm.findClass own = some m.cls) (w1 : (Cond.methodLink own index y).before a0 Z = true) (w2 : (Cond.static y).before a0 Z = true) (w3 : (Cond.initialized y.cls).before a0 Z = true) (w4 : (Cond.codeWith y bytes maxL ret hs').before a0 Z = true)
    (hy : y.cls ≠ "java/lang/invoke/MethodHandle" ∧ y.cls ≠ "java/lang/invoke/VarHandle") (eT : T.heap = h) (O : Ow K Z h n0 D) (N : Fr n0 locs) {as' : List Value} (hM : Ct K l Z y (.codeWith y bytes maxL ret hs') rm n0 D as'.toArray r D') {W kc ks : Nat} (hkc : rm.cells = kc) (hks : rm.slots = ks) (hf : rm.frames + 1 ≤ R.frames) (hl : W + (maxL + 11) + rm.locals ≤ R.locals)
    {g : JFrame} (hg : g.method = m) (hsize : g.locals.size = c.maxLocals) {rest : List Value} (hlen : ∀ sig, parseMethodDescriptor y.desc = some sig → as'.length = sig.parameters.length) (hs : g.stack = as'.reverse ++ rest) (hW : 2 * g.monitorRoom + (rest.map fun v => v.category).sum ≤ W) (hd : decode c.code g.pc = .ok (.invokestatic index, 3)) (hc : cells + kc ≤ R.cells) (hsl : slots + ks ≤ R.slots) :
    ∃ T' h' L, Stand p l e R s m args below meth c T' L (cells + kc) (slots + ks) ∧ T'.heap = h' ∧ Ow K Z h' n0 D' ∧ Fr n0 L ∧ ∀ target, Steps p.tables e below (T'.setTop { g with pc := g.pc + 3, stack := r.toList ++ rest }) target → Steps p.tables e below (T.setTop g) target := by
  subst hkc hks
  obtain ⟨_, _, ⟨T', L', k', n'⟩, -, X', ⟨Lc, hQ, hL, hk, hn⟩, st⟩ := callSH X hx hown (mvT hZ w1) (mvT hZ w2) (mvT hZ w3) (mvT hZ w4) hy (backOfWith (W := W) (hM h [] O) hZ w4 w3 hf hl) hg hsize (argsL := as') hlen hs hW hd (fun _ _ => ⟨rfl, eT, hc, hsl⟩)
  dsimp only [Pt.U, Pt.locs, Pt.cells, Pt.slots] at X' hL hk hn st hQ
  subst hL hk hn
  obtain ⟨rfl, N', O'⟩ := hQ
  exact ⟨T', _, _, X', rfl, O', N.app N', st⟩
theorem callIW (X : Stand p l e R s m args below meth c T locs cells slots) (hx : p.tables.exec = Jvm.exec) (hZ : Z.Warmed39 s.vm) {own : String} {index : Nat} (hy1 : y.name = "<init>") (hown : s.vm.findClass own = some m.cls) (w1 : (Cond.methodLink own index y).before a0 Z = true) (w2 : (Cond.instanceMethod y).before a0 Z = true) (w3 : (Cond.initialized y.cls).before a0 Z = true) (w4 : (Cond.code y bytes maxL none).before a0 Z = true)
    (hy : y.cls ≠ "java/lang/invoke/MethodHandle" ∧ y.cls ≠ "java/lang/invoke/VarHandle") (eT : T.heap = h) (O : Ow K Z h n0 D) (N : Fr n0 locs) {as' : List Value} (hM : Ct K l Z y (.code y bytes maxL none) rm n0 D (.ref (n0 + a) :: as').toArray r D') {W kc ks : Nat} (hkc : rm.cells = kc) (hks : rm.slots = ks) (hf : rm.frames + 1 ≤ R.frames) (hl : W + (maxL + 11) + rm.locals ≤ R.locals)
    {g : JFrame} (hg : g.method = m) (hsize : g.locals.size = c.maxLocals) {rest : List Value} (hlen : ∀ sig, parseMethodDescriptor y.desc = some sig → as'.length = sig.parameters.length) (hs : g.stack = as'.reverse ++ .ref (n0 + a) :: rest) (hW : 2 * g.monitorRoom + (rest.map fun v => v.category).sum ≤ W) (hd : decode c.code g.pc = .ok (.invokespecial index, 3)) (hc : cells + kc ≤ R.cells) (hsl : slots + ks ≤ R.slots) :
    ∃ T' h' L, Stand p l e R s m args below meth c T' L (cells + kc) (slots + ks) ∧ T'.heap = h' ∧ Ow K Z h' n0 D' ∧ Fr n0 L ∧ ∀ target, Steps p.tables e below (T'.setTop { g with pc := g.pc + 3, stack := r.toList ++ rest }) target → Steps p.tables e below (T.setTop g) target := by
  subst hkc hks
  obtain ⟨_, _, ⟨T', L', k', n'⟩, -, X', ⟨Lc, hQ, hL, hk, hn⟩, st⟩ := Jvm.LawKit.callI X hx hown hy1 (mvT hZ w1) (mvT hZ w2) (mvT hZ w4) hy (backOf (W := W) (hM h [] O) hZ w4 w3 hf hl) hg hsize (argsL := as') hlen hs hW hd (fun _ _ => ⟨rfl, eT, hc, hsl⟩)
  dsimp only [Pt.U, Pt.locs, Pt.cells, Pt.slots] at X' hL hk hn st hQ
  subst hL hk hn
  obtain ⟨rfl, N', O'⟩ := hQ
  exact ⟨T', _, _, X', rfl, O', N.app N', st⟩
theorem callVW (X : Stand p l e R s m args below meth c T locs cells slots) (hx : p.tables.exec = Jvm.exec) (hZ : Z.Warmed39 s.vm) {own C : String} {index : Nat} (hown : s.vm.findClass own = some m.cls) (w1 : (Cond.methodLink own index y).before a0 Z = true) (w2 : (Cond.declares y).before a0 Z = true) (w5 : (Cond.selects C y y).before a0 Z = true) (w6 : (Cond.instanceMethod y).before a0 Z = true) (w3 : (Cond.initialized y.cls).before a0 Z = true) (w4 : (Cond.code y bytes maxL ret).before a0 Z = true)
    (hy : y.cls ≠ "java/lang/invoke/MethodHandle" ∧ y.cls ≠ "java/lang/invoke/VarHandle") (eT : T.heap = h) (O : Ow K Z h n0 D) (N : Fr n0 locs) {q : Nat} (hck : ck D a t = some q) (hK : (K t).1 = .object C) {as' : List Value} (hM : Ct K l Z y (.code y bytes maxL ret) rm n0 D (.ref (n0 + a) :: as').toArray r D') {W kc ks : Nat} (hkc : rm.cells = kc) (hks : rm.slots = ks) (hf : rm.frames + 1 ≤ R.frames) (hl : W + (maxL + 11) + rm.locals ≤ R.locals)
    {g : JFrame} (hg : g.method = m) (hsize : g.locals.size = c.maxLocals) {rest : List Value} (hlen : ∀ sig, parseMethodDescriptor y.desc = some sig → as'.length = sig.parameters.length) (hs : g.stack = as'.reverse ++ .ref (n0 + a) :: rest) (hW : 2 * g.monitorRoom + (rest.map fun v => v.category).sum ≤ W) (hd : decode c.code g.pc = .ok (.invokevirtual index, 3)) (hc : cells + kc ≤ R.cells) (hsl : slots + ks ≤ R.slots) :
    ∃ T' h' L, Stand p l e R s m args below meth c T' L (cells + kc) (slots + ks) ∧ T'.heap = h' ∧ Ow K Z h' n0 D' ∧ Fr n0 L ∧ ∀ target, Steps p.tables e below (T'.setTop { g with pc := g.pc + 3, stack := r.toList ++ rest }) target → Steps p.tables e below (T.setTop g) target := by
  subst hkc hks
  obtain ⟨cq, kq, qa, qb, qc⟩ := isOf hZ eT (O.exaC hck hK)
  obtain ⟨_, _, ⟨T', L', k', n'⟩, -, X', ⟨Lc, hQ, hL, hk, hn⟩, st⟩ := X.virtualBack hx (y := y) (z := y) hown (mvT hZ w1) (mvT hZ w2) (notFace_of_selects (args := #[]) (mvT hZ w5)) (mvT hZ w5) (mvT hZ w6) hy (backOf (W := W) (hM h [] O) hZ w4 w3 hf hl) qa qc hg hsize (Steps.refl _) (argsL := as') hlen hs hW hd (fun _ _ => ⟨rfl, eT, hc, hsl⟩)
  dsimp only [Pt.U, Pt.locs, Pt.cells, Pt.slots] at X' hL hk hn st hQ
  subst hL hk hn
  obtain ⟨rfl, N', O'⟩ := hQ
  exact ⟨T', _, _, X', rfl, O', N.app N', fun target k => st.trans k⟩
theorem callPW (X : Stand p l e R s m args below meth c T locs cells slots) (hx : p.tables.exec = Jvm.exec) (hZ : Z.Warmed39 s.vm) {own C : String} {index nk : Nat} (hown : s.vm.findClass own = some m.cls) (w1 : (Cond.methodLink own index y).before a0 Z = true) (w2 : (Cond.privateMethod y).before a0 Z = true) (w5 : (Cond.instantiable y.cls nk).before a0 Z = true) (w6 : (Cond.instanceMethod y).before a0 Z = true) (w3 : (Cond.initialized y.cls).before a0 Z = true) (w4 : (Cond.code y bytes maxL ret).before a0 Z = true)
    (hy : y.cls ≠ "java/lang/invoke/MethodHandle" ∧ y.cls ≠ "java/lang/invoke/VarHandle") (eT : T.heap = h) (O : Ow K Z h n0 D) (N : Fr n0 locs) {q : Nat} (hck : ck D a t = some q) (hK : (K t).1 = .object C) {as' : List Value} (hM : Ct K l Z y (.code y bytes maxL ret) rm n0 D (.ref (n0 + a) :: as').toArray r D') {W kc ks : Nat} (hkc : rm.cells = kc) (hks : rm.slots = ks) (hf : rm.frames + 1 ≤ R.frames) (hl : W + (maxL + 11) + rm.locals ≤ R.locals)
    {g : JFrame} (hg : g.method = m) (hsize : g.locals.size = c.maxLocals) {rest : List Value} (hlen : ∀ sig, parseMethodDescriptor y.desc = some sig → as'.length = sig.parameters.length) (hs : g.stack = as'.reverse ++ .ref (n0 + a) :: rest) (hW : 2 * g.monitorRoom + (rest.map fun v => v.category).sum ≤ W) (hd : decode c.code g.pc = .ok (.invokevirtual index, 3)) (hc : cells + kc ≤ R.cells) (hsl : slots + ks ≤ R.slots) :
    ∃ T' h' L, Stand p l e R s m args below meth c T' L (cells + kc) (slots + ks) ∧ T'.heap = h' ∧ Ow K Z h' n0 D' ∧ Fr n0 L ∧ ∀ target, Steps p.tables e below (T'.setTop { g with pc := g.pc + 3, stack := r.toList ++ rest }) target → Steps p.tables e below (T.setTop g) target := by
  subst hkc hks
  obtain ⟨cC, kC, i1, i2, -, i4, -, -⟩ := Cond.instantiable_spec (mvT (args := args) hZ w5)
  have hpr := Cond.privateMethod_at (mvP (args := args) hZ w2)
  have hsel := selects_self_of_private i1 i2 (Bool.or_eq_false_iff.mp i4).1 hpr (mvT (args := args) hZ w6) hy
  obtain ⟨cq, qa, qb⟩ := (O.exaC hck hK).cell
  obtain ⟨_, _, ⟨T', L', k', n'⟩, -, X', ⟨Lc, hQ, hL, hk, hn⟩, st⟩ := X.privateBack hx (y := y) hown (mvT hZ w1) (mvT hZ w6) hsel hpr (mvT hZ w4) hy (backOf (W := W) (hM h [] O) hZ w4 w3 hf hl) hg hsize (Steps.refl _) (by rw [eT]; exact qa) qb (argsL := as') hlen hs hW hd (fun _ _ => ⟨rfl, eT, hc, hsl⟩)
  dsimp only [Pt.U, Pt.locs, Pt.cells, Pt.slots] at X' hL hk hn st hQ
  subst hL hk hn
  obtain ⟨rfl, N', O'⟩ := hQ
  exact ⟨T', _, _, X', rfl, O', N.app N', fun target k => st.trans k⟩
theorem cloneW (X : Stand p l e R s m args below meth c T locs cells slots) (hx : p.tables.exec = Jvm.exec) (hZ : Z.Warmed39 s.vm) {own ad : String} {index : Nat} {ty : FieldType} (hown : s.vm.findClass own = some m.cls) (had : ad = "[" ++ ty.toString)
    (w1 : (Cond.methodLink own index ⟨ad, "clone", "()Ljava/lang/Object;"⟩).before a0 Z = true) (w2 : (Cond.sameMethod ad "java/lang/Object" "clone" "()Ljava/lang/Object;").before a0 Z = true) (w3 : (Cond.native ⟨"java/lang/Object", "clone", "()Ljava/lang/Object;"⟩).before a0 Z = true)
    (w4 : (Cond.instanceMethod ⟨"java/lang/Object", "clone", "()Ljava/lang/Object;"⟩).before a0 Z = true) (w5 : (Cond.selects ad ⟨ad, "clone", "()Ljava/lang/Object;"⟩ ⟨"java/lang/Object", "clone", "()Ljava/lang/Object;"⟩).before a0 Z = true) (w6 : (Cond.castable ad "java/lang/Cloneable").before a0 Z = true)
    (eT : T.heap = h) (O : Ow K Z h n0 D) (hK : (K t).1 = .array ty) {cap : Nat} (hq : cA' D a t cap = some D') {g : JFrame} (hg : g.method = m) (hsize : g.locals.size = c.maxLocals) {rest : List Value} (hs : g.stack = .ref (n0 + a) :: rest) (hd : decode c.code g.pc = .ok (.invokevirtual index, 3))
    (hf : 1 ≤ R.frames) {W : Nat} (hW : 2 * g.monitorRoom + (rest.map fun v => v.category).sum ≤ W) (hl : W + 14 ≤ R.locals) (hc : cells + 1 ≤ R.cells) (hsl : slots + cap ≤ R.slots) :
    ∃ T' h', Stand p l e R s m args below meth c T' locs (cells + 1) (slots + cap) ∧ T'.heap = h' ∧ Ow K Z h' n0 D' ∧ ∀ target, Steps p.tables e below (T'.setTop { g with pc := g.pc + 3, stack := .ref (n0 + D.length) :: rest }) target → Steps p.tables e below (T.setTop g) target := by
  obtain ⟨vs, h1, h2, rfl⟩ := cA_e hq
  obtain ⟨E, cl, A, hsl', hlen, hfit⟩ := (O.2 a t vs h1).1 ty hK
  rw [← had] at E
  obtain ⟨c2, k, e1, e2, e3, e4, e5⟩ := E
  cases A.1.symm.trans e1
  obtain ⟨c1, cC, g1, g2, g3⟩ := Cond.castable_spec w6
  cases e2.symm.trans g1
  have hal : Z.vm.Alike T.vm := hZ.alike.trans X.warmed.alike
  have hsz : cl.slots.size = vs.length := by rw [hsl', sh_len]
  have hfc : ∀ i v, cl.slots[i]? = some v → Z.fitsSlot cl.cls .none i v = true := fun i v hv => by
    obtain ⟨-, k2, hk2, comp, hkind⟩ := A.2.1
    have e : Z.slotType? cl.cls .none i = some ty := by simp [State.slotType?, hk2, hkind]
    have hv' : ∃ w ∈ vs, sh n0 w = v := by
      rw [hsl'] at hv
      have hm : v ∈ vs.map (sh n0) := by
        have := Array.mem_of_getElem? hv
        simpa using this
      exact List.mem_map.mp hm
    obtain ⟨w, hw, rfl⟩ := hv'
    have hfw : fits ty (sh n0 w) = true := by
      have := hfit w hw
      cases w <;> first | exact this | (cases ty <;> first | (cases this; done) | rfl)
    simpa [State.fitsSlot, e] using hfw
  obtain ⟨vm', X', st⟩ := X.cloneArray hx hown (mv hZ w1) (mv hZ w2) (mv hZ w3) (mv hZ w4) (mv hZ w5) (a := n0 + a) (by rw [eT]; exact A.1) A.2.1.1 A.2.2 (by rw [hZ.alike.findClass]; exact e2) (by rw [hZ.alike.findClass]; exact g2) (by rw [hZ.alike.assignable]; exact g3)
    (fun i v hv => by have q := hfc i v hv; rw [← State.fitsSlot_setVm hal] at q; exact q) hg hsize hs hd hf (by omega) hc (by omega)
    (by obtain ⟨-, k2, hk2, comp, hkind⟩ := A.2.1; rw [hZ.alike.clonesLoader]; exact Vm.clonesLoader_of_array hk2 hkind)
  subst eT
  have hs0 := O.1
  refine ⟨_, _, X'.more (Nat.le_refl _) (by omega), rfl, O.push (h' := T.heap.push _) ⟨by simp, fun a c h => ?_⟩ (by simp) ⟨fun ty' hK' => ?_, fun C hK' => by rw [hK] at hK'; cases hK'⟩, by rw [← hs0]; exact st⟩
  · rw [Array.getElem?_push_lt (Array.getElem?_eq_some_iff.mp h).1]; exact (Array.getElem?_eq_getElem _).symm.trans h
  · cases hK.symm.trans hK'
    rw [← hs0, ← had]
    exact ⟨⟨_, k, Array.getElem?_push_size, e2, e3, rfl, e5⟩, _, ⟨Array.getElem?_push_size, ⟨fun _ z => (by cases z), A.2.1.2⟩, fun z => (by cases z)⟩, hsl', hlen, hfit⟩
theorem castW (X : Stand p l e R s m args below meth c T locs cells slots) (hx : p.tables.exec = Jvm.exec) (hZ : Z.Warmed39 s.vm) {own ad : String} {index : Nat} {ty : FieldType} (hown : s.vm.findClass own = some m.cls) (w : (Cond.classLink own index ad).before a0 Z = true) (had : ad = "[" ++ ty.toString) (eT : T.heap = h) (O : Ow K Z h n0 D) {q : Nat} (hck : ck D a t = some q) (hK : (K t).1 = .array ty)
    {g : JFrame} (hg : g.method = m) {rest : List Value} (hs : g.stack = .ref (n0 + a) :: rest) (hd : decode c.code g.pc = .ok (.checkcast index, 3)) : ∃ T', Stand p l e R s m args below meth c T' locs cells slots ∧ T'.heap = h ∧ ∀ target, Steps p.tables e below (T'.setTop { g with pc := g.pc + 3 }) target → Steps p.tables e below (T.setTop g) target := by
  obtain ⟨vs, h1⟩ := ck_e hck
  obtain ⟨E, -⟩ := (O.2 a t vs h1).1 ty hK
  rw [← had] at E
  exact castY X hx hZ hown w eT (Ins.self E) hg hs hd
end OwnLaws
def Kt1 : Kt := fun k => match k with
  | 0 => ((.object "com/example/eidwerk/eidwerk/tlv/Tlv$Header"), [("tag", "I"), ("headerLength", "I"), ("valueLength", "I")])
  | _ => (.int, [])
theorem lay1 {Z : State} {a0 : Array Value} (hw : ∀ d ∈ tables_1, d.before a0 Z = true) : Lay Kt1 Z a0 := by
  intro t C hC
  match t, hC with
  | 0, hC =>
    cases hC
    refine ⟨fun q hq => ?_, by decide⟩
    have hq' : q ∈ [(("tag", "I") : String × String), (("headerLength", "I") : String × String), (("valueLength", "I") : String × String)] := hq
    simp only [List.mem_cons, List.not_mem_nil, or_false] at hq'
    rcases hq' with rfl | rfl | rfl
    · exact ⟨Or.inr (hw _ (List.mem_of_getElem? (i := 15) rfl)), _, (by decide : parseFieldDescriptor _ = some .int)⟩
    · exact ⟨Or.inr (hw _ (List.mem_of_getElem? (i := 17) rfl)), _, (by decide : parseFieldDescriptor _ = some .int)⟩
    · exact ⟨Or.inr (hw _ (List.mem_of_getElem? (i := 19) rfl)), _, (by decide : parseFieldDescriptor _ = some .int)⟩
  | n + 1, hC => cases hC
theorem d2_0 : decode jdk_30_method_1_code 0 = .ok (.aload_n 0, 1) := by decide +kernel
theorem d2_1 : decode jdk_30_method_1_code 1 = .ok (.invokespecial 1, 3) := by decide +kernel
theorem d2_4 : decode jdk_30_method_1_code 4 = .ok (.return_, 1) := by decide +kernel
theorem pn_2 : plainName "java/lang/Record" = true := by first | (simp [plainName, overriddenIn]; done) | decide +kernel
def f2 (D : Hp) (ob0 : Nat) : Option (Hp) :=
  some D
theorem ef_2 (m : MethodId) (n0 : Nat) (ob0 : Nat) : entryFrame m #[(.ref (n0 + ob0))] 1 = mkF m 0 #[.val (.ref (n0 + ob0))] [] := by first | (simp [entryFrame, mkF, argsToLocals, Value.category]; done) | rfl
set_option maxRecDepth 65536 in
set_option maxHeartbeats 40000000 in
theorem ct2 {l : Launch} {Z : State} {a0 : Array Value} (hw : ∀ d ∈ tables_1, d.before a0 Z = true) {n0 : Nat} {D D' : Hp} {ob0 : Nat} (hf : f2 D ob0 = some D') :
    Ct Kt1 l Z (⟨"java/lang/Record", "<init>", "()V"⟩ : MethodName) (.code (⟨"java/lang/Record", "<init>", "()V"⟩ : MethodName) jdk_30_method_1_code 1 none) ({ frames := 1, cells := 0, slots := 0, locals := 12 } : Room) n0 D #[(.ref (n0 + ob0))] none D' := by
  refine Ct.of (plainFor_of_name pn_2) ?_
  intro p e s m below meth c T0 h0 hC X0 e0 O0
  obtain ⟨hx, hZ, hby, hml, hown, hnm, hret, hlk⟩ := id hC
  have hml : c.maxLocals = 1 := hml
  have hown : s.vm.findClass "java/lang/Record" = some m.cls := hown
  have hnm : meth.name = "<init>" := hnm
  have N0 := Fr.nil n0
  refine Gl.on (fun t k => castTop (ef_2 m n0 ob0) k) ?_
  rw [f2] at hf
  obtain ⟨T1, X1, e1, st1⟩ := initO X0 hx hZ hown (hw _ (List.mem_of_getElem? (i := 11) rfl)) (hw _ (List.mem_of_getElem? (i := 12) rfl)) (hw _ (List.mem_of_getElem? (i := 13) rfl)) e0 (g := (mkF m 1 #[.val (.ref (n0 + ob0))] [(.ref (n0 + ob0))])) rfl (by rw [hml]; rfl) rfl (hb hby d2_1) (by decide) (W := 0) (by show 2 * 0 + _ ≤ _; exact Nat.le_of_eq rfl) (by decide)
  refine Gl.on (B := T1.setTop (mkF m 4 #[.val (.ref (n0 + ob0))] [])) (fun t k => ?_) ?_
  · show Steps p.tables e below (T0.setTop (mkF m 0 #[.val (.ref (n0 + ob0))] [])) _
    refine XS.aloadN X0.here hx rfl (hb hby d2_0) rfl rfl ?_
    show Steps p.tables e below (T0.setTop (mkF m 1 #[.val (.ref (n0 + ob0))] [(.ref (n0 + ob0))])) _
    refine st1 _ ?_
    exact k
  obtain rfl := own_inj1 hf
  exact Gl.outV X1 hx hlk hret (hb hby d2_4) ⟨rfl, N0, by rw [e1]; exact O0⟩ (by show _ ≤ 0; omega) (by show _ ≤ 0; omega)
theorem pd_0 : parseMethodDescriptor "()V" = some ⟨[], none⟩ := by decide +kernel
theorem d1_0 : decode prog_66_method_1_code 0 = .ok (.aload_n 0, 1) := by decide +kernel
theorem d1_1 : decode prog_66_method_1_code 1 = .ok (.invokespecial 1, 3) := by decide +kernel
theorem d1_4 : decode prog_66_method_1_code 4 = .ok (.aload_n 0, 1) := by decide +kernel
theorem d1_5 : decode prog_66_method_1_code 5 = .ok (.iload_n 1, 1) := by decide +kernel
theorem d1_6 : decode prog_66_method_1_code 6 = .ok (.putfield 7, 3) := by decide +kernel
theorem d1_9 : decode prog_66_method_1_code 9 = .ok (.aload_n 0, 1) := by decide +kernel
theorem d1_10 : decode prog_66_method_1_code 10 = .ok (.iload_n 2, 1) := by decide +kernel
theorem d1_11 : decode prog_66_method_1_code 11 = .ok (.putfield 13, 3) := by decide +kernel
theorem d1_14 : decode prog_66_method_1_code 14 = .ok (.aload_n 0, 1) := by decide +kernel
theorem d1_15 : decode prog_66_method_1_code 15 = .ok (.iload_n 3, 1) := by decide +kernel
theorem d1_16 : decode prog_66_method_1_code 16 = .ok (.putfield 16, 3) := by decide +kernel
theorem d1_19 : decode prog_66_method_1_code 19 = .ok (.return_, 1) := by decide +kernel
theorem pn_1 : plainName "com/example/eidwerk/eidwerk/tlv/Tlv$Header" = true := by first | (simp [plainName, overriddenIn]; done) | decide +kernel
def f1 (D : Hp) (ob0 : Nat) (i1 : Int32) (i2 : Int32) (i3 : Int32) : Option (Hp) :=
  (f2 D ob0).bind fun D1 =>
  (pV D1 ob0 0 0 (.int i1)).bind fun D2 =>
  (pV D2 ob0 0 1 (.int i2)).bind fun D3 =>
  (pV D3 ob0 0 2 (.int i3)).bind fun D4 =>
  some D4
theorem ef_1 (m : MethodId) (n0 : Nat) (ob0 : Nat) (i1 : Int32) (i2 : Int32) (i3 : Int32) : entryFrame m #[(.ref (n0 + ob0)), (.int i1), (.int i2), (.int i3)] 4 = mkF m 0 #[.val (.ref (n0 + ob0)), .val (.int i1), .val (.int i2), .val (.int i3)] [] := by first | (simp [entryFrame, mkF, argsToLocals, Value.category]; done) | rfl
set_option maxRecDepth 65536 in
set_option maxHeartbeats 40000000 in
theorem ct1 {l : Launch} {Z : State} {a0 : Array Value} (hw : ∀ d ∈ tables_1, d.before a0 Z = true) {n0 : Nat} {D D' : Hp} {ob0 : Nat} {i1 : Int32} {i2 : Int32} {i3 : Int32} (hf : f1 D ob0 i1 i2 i3 = some D') :
    Ct Kt1 l Z (⟨"com/example/eidwerk/eidwerk/tlv/Tlv$Header", "<init>", "(III)V"⟩ : MethodName) (.code (⟨"com/example/eidwerk/eidwerk/tlv/Tlv$Header", "<init>", "(III)V"⟩ : MethodName) prog_66_method_1_code 4 none) ({ frames := 2, cells := 0, slots := 0, locals := 24 } : Room) n0 D #[(.ref (n0 + ob0)), (.int i1), (.int i2), (.int i3)] none D' := by
  refine Ct.of (plainFor_of_name pn_1) ?_
  intro p e s m below meth c T0 h0 hC X0 e0 O0
  obtain ⟨hx, hZ, hby, hml, hown, hnm, hret, hlk⟩ := id hC
  have hml : c.maxLocals = 4 := hml
  have hown : s.vm.findClass "com/example/eidwerk/eidwerk/tlv/Tlv$Header" = some m.cls := hown
  have hnm : meth.name = "<init>" := hnm
  have N0 := Fr.nil n0
  refine Gl.on (fun t k => castTop (ef_1 m n0 ob0 i1 i2 i3) k) ?_
  rw [f1] at hf
  obtain ⟨D1, hq1, hf⟩ := own_bind hf
  obtain ⟨T1, h1, L1, X1, e1, O1, N1, st1⟩ := callIW X0 hx hZ (y := (⟨"java/lang/Record", "<init>", "()V"⟩ : MethodName)) rfl hown (hw _ (List.mem_of_getElem? (i := 6) rfl)) (hw _ (List.mem_of_getElem? (i := 7) rfl)) (hw _ (List.mem_of_getElem? (i := 9) rfl)) (hw _ (List.mem_of_getElem? (i := 10) rfl)) (by decide) e0 O0 N0 (as' := []) (ct2 hw hq1) (W := 0) (kc := 0) (ks := 0) rfl rfl (by decide) (by decide) (g := (mkF m 1 #[.val (.ref (n0 + ob0)), .val (.int i1), .val (.int i2), .val (.int i3)] [(.ref (n0 + ob0))])) rfl (by rw [hml]; rfl) (rest := []) (lenOf pd_0 rfl) rfl (by show 2 * 0 + _ ≤ _; exact Nat.le_of_eq rfl) (hb hby d1_1) (by show _ + 0 ≤ 0; omega) (by show _ + 0 ≤ 0; omega)
  obtain ⟨D2, hq2, hf⟩ := own_bind hf
  obtain ⟨T2, h2, L2, X2, e2, O2, N2, st2⟩ := putW X1 hx hZ hown (hw _ (List.mem_of_getElem? (i := 14) rfl)) (lay1 hw) e1 O1 N1 hq2 rfl rfl (Or.inr ⟨(hw _ (List.mem_of_getElem? (i := 15) rfl)), rfl, hnm⟩) (hw _ (List.mem_of_getElem? (i := 1) rfl)) (ty := .int) (by decide) rfl rfl (g := (mkF m 6 #[.val (.ref (n0 + ob0)), .val (.int i1), .val (.int i2), .val (.int i3)] [(.int i1), (.ref (n0 + ob0))])) rfl rfl (hb hby d1_6)
  obtain ⟨D3, hq3, hf⟩ := own_bind hf
  obtain ⟨T3, h3, L3, X3, e3, O3, N3, st3⟩ := putW X2 hx hZ hown (hw _ (List.mem_of_getElem? (i := 16) rfl)) (lay1 hw) e2 O2 N2 hq3 rfl rfl (Or.inr ⟨(hw _ (List.mem_of_getElem? (i := 17) rfl)), rfl, hnm⟩) (hw _ (List.mem_of_getElem? (i := 1) rfl)) (ty := .int) (by decide) rfl rfl (g := (mkF m 11 #[.val (.ref (n0 + ob0)), .val (.int i1), .val (.int i2), .val (.int i3)] [(.int i2), (.ref (n0 + ob0))])) rfl rfl (hb hby d1_11)
  obtain ⟨D4, hq4, hf⟩ := own_bind hf
  obtain ⟨T4, h4, L4, X4, e4, O4, N4, st4⟩ := putW X3 hx hZ hown (hw _ (List.mem_of_getElem? (i := 18) rfl)) (lay1 hw) e3 O3 N3 hq4 rfl rfl (Or.inr ⟨(hw _ (List.mem_of_getElem? (i := 19) rfl)), rfl, hnm⟩) (hw _ (List.mem_of_getElem? (i := 1) rfl)) (ty := .int) (by decide) rfl rfl (g := (mkF m 16 #[.val (.ref (n0 + ob0)), .val (.int i1), .val (.int i2), .val (.int i3)] [(.int i3), (.ref (n0 + ob0))])) rfl rfl (hb hby d1_16)
  refine Gl.on (B := T4.setTop (mkF m 19 #[.val (.ref (n0 + ob0)), .val (.int i1), .val (.int i2), .val (.int i3)] [])) (fun t k => ?_) ?_
  · show Steps p.tables e below (T0.setTop (mkF m 0 #[.val (.ref (n0 + ob0)), .val (.int i1), .val (.int i2), .val (.int i3)] [])) _
    refine XS.aloadN X0.here hx rfl (hb hby d1_0) rfl rfl ?_
    show Steps p.tables e below (T0.setTop (mkF m 1 #[.val (.ref (n0 + ob0)), .val (.int i1), .val (.int i2), .val (.int i3)] [(.ref (n0 + ob0))])) _
    refine st1 _ ?_
    show Steps p.tables e below (T1.setTop (mkF m 4 #[.val (.ref (n0 + ob0)), .val (.int i1), .val (.int i2), .val (.int i3)] [])) _
    refine XS.aloadN X1.here hx rfl (hb hby d1_4) rfl rfl ?_
    show Steps p.tables e below (T1.setTop (mkF m 5 #[.val (.ref (n0 + ob0)), .val (.int i1), .val (.int i2), .val (.int i3)] [(.ref (n0 + ob0))])) _
    refine XS.iloadN X1.here hx rfl (hb hby d1_5) rfl ?_
    show Steps p.tables e below (T1.setTop (mkF m 6 #[.val (.ref (n0 + ob0)), .val (.int i1), .val (.int i2), .val (.int i3)] [(.int i1), (.ref (n0 + ob0))])) _
    refine st2 _ ?_
    show Steps p.tables e below (T2.setTop (mkF m 9 #[.val (.ref (n0 + ob0)), .val (.int i1), .val (.int i2), .val (.int i3)] [])) _
    refine XS.aloadN X2.here hx rfl (hb hby d1_9) rfl rfl ?_
    show Steps p.tables e below (T2.setTop (mkF m 10 #[.val (.ref (n0 + ob0)), .val (.int i1), .val (.int i2), .val (.int i3)] [(.ref (n0 + ob0))])) _
    refine XS.iloadN X2.here hx rfl (hb hby d1_10) rfl ?_
    show Steps p.tables e below (T2.setTop (mkF m 11 #[.val (.ref (n0 + ob0)), .val (.int i1), .val (.int i2), .val (.int i3)] [(.int i2), (.ref (n0 + ob0))])) _
    refine st3 _ ?_
    show Steps p.tables e below (T3.setTop (mkF m 14 #[.val (.ref (n0 + ob0)), .val (.int i1), .val (.int i2), .val (.int i3)] [])) _
    refine XS.aloadN X3.here hx rfl (hb hby d1_14) rfl rfl ?_
    show Steps p.tables e below (T3.setTop (mkF m 15 #[.val (.ref (n0 + ob0)), .val (.int i1), .val (.int i2), .val (.int i3)] [(.ref (n0 + ob0))])) _
    refine XS.iloadN X3.here hx rfl (hb hby d1_15) rfl ?_
    show Steps p.tables e below (T3.setTop (mkF m 16 #[.val (.ref (n0 + ob0)), .val (.int i1), .val (.int i2), .val (.int i3)] [(.int i3), (.ref (n0 + ob0))])) _
    refine st4 _ ?_
    exact k
  obtain rfl := own_inj1 hf
  exact Gl.outV X4 hx hlk hret (hb hby d1_19) ⟨rfl, N4, by rw [e4]; exact O4⟩ (by show _ ≤ 0; omega) (by show _ ≤ 0; omega)
theorem d4_0 : decode prog_66_method_2_code 0 = .ok (.aload_n 0, 1) := by decide +kernel
theorem d4_1 : decode prog_66_method_2_code 1 = .ok (.getfield 13, 3) := by decide +kernel
theorem d4_4 : decode prog_66_method_2_code 4 = .ok (.i2l, 1) := by decide +kernel
theorem d4_5 : decode prog_66_method_2_code 5 = .ok (.aload_n 0, 1) := by decide +kernel
theorem d4_6 : decode prog_66_method_2_code 6 = .ok (.getfield 16, 3) := by decide +kernel
theorem d4_9 : decode prog_66_method_2_code 9 = .ok (.i2l, 1) := by decide +kernel
theorem d4_10 : decode prog_66_method_2_code 10 = .ok (.ladd, 1) := by decide +kernel
theorem d4_11 : decode prog_66_method_2_code 11 = .ok (.lreturn, 1) := by decide +kernel
theorem pn_4 : plainName "com/example/eidwerk/eidwerk/tlv/Tlv$Header" = true := by first | (simp [plainName, overriddenIn]; done) | decide +kernel
def f4 (D : Hp) (ob0 : Nat) : Option (Int64 × Hp) :=
  (gI D ob0 0 1).bind fun x1 =>
  (gI D ob0 0 2).bind fun x3 =>
  some (((x1.toInt64) + (x3.toInt64)), D)
theorem ef_4 (m : MethodId) (n0 : Nat) (ob0 : Nat) : entryFrame m #[(.ref (n0 + ob0))] 1 = mkF m 0 #[.val (.ref (n0 + ob0))] [] := by first | (simp [entryFrame, mkF, argsToLocals, Value.category]; done) | rfl
set_option maxRecDepth 65536 in
set_option maxHeartbeats 40000000 in
theorem ct4 {l : Launch} {Z : State} {a0 : Array Value} (hw : ∀ d ∈ tables_1, d.before a0 Z = true) {n0 : Nat} {D D' : Hp} {ob0 : Nat} {r : Int64} (hf : f4 D ob0 = some (r, D')) :
    Ct Kt1 l Z (⟨"com/example/eidwerk/eidwerk/tlv/Tlv$Header", "totalLength", "()J"⟩ : MethodName) (.code (⟨"com/example/eidwerk/eidwerk/tlv/Tlv$Header", "totalLength", "()J"⟩ : MethodName) prog_66_method_2_code 1 (some .long)) ({ frames := 0, cells := 0, slots := 0, locals := 0 } : Room) n0 D #[(.ref (n0 + ob0))] (some (.long r)) D' := by
  refine Ct.of (plainFor_of_name pn_4) ?_
  intro p e s m below meth c T0 h0 hC X0 e0 O0
  obtain ⟨hx, hZ, hby, hml, hown, hnm, hret, hlk⟩ := id hC
  have hml : c.maxLocals = 1 := hml
  have hown : s.vm.findClass "com/example/eidwerk/eidwerk/tlv/Tlv$Header" = some m.cls := hown
  have hnm : meth.name = "totalLength" := hnm
  have N0 := Fr.nil n0
  refine Gl.on (fun t k => castTop (ef_4 m n0 ob0) k) ?_
  rw [f4] at hf
  obtain ⟨x1, hx1, hf⟩ := own_bind hf
  obtain ⟨T2, X2, e2, st2⟩ := getF X0 hx hZ hown (host := "") (Or.inl (hw _ (List.mem_of_getElem? (i := 16) rfl))) Via.refl e0 (O0.fld (gI_e hx1) rfl rfl) (g := (mkF m 1 #[.val (.ref (n0 + ob0))] [(.ref (n0 + ob0))])) rfl rfl (hb hby d4_1)
  obtain ⟨x3, hx3, hf⟩ := own_bind hf
  obtain ⟨T4, X4, e4, st4⟩ := getF X2 hx hZ hown (host := "") (Or.inl (hw _ (List.mem_of_getElem? (i := 18) rfl))) Via.refl e2 (O0.fld (gI_e hx3) rfl rfl) (g := (mkF m 6 #[.val (.ref (n0 + ob0))] [(.ref (n0 + ob0)), (.long (x1.toInt64))])) rfl rfl (hb hby d4_6)
  refine Gl.on (B := T4.setTop (mkF m 11 #[.val (.ref (n0 + ob0))] [(.long ((x1.toInt64) + (x3.toInt64)))])) (fun t k => ?_) ?_
  · show Steps p.tables e below (T0.setTop (mkF m 0 #[.val (.ref (n0 + ob0))] [])) _
    refine XS.aloadN X0.here hx rfl (hb hby d4_0) rfl rfl ?_
    show Steps p.tables e below (T0.setTop (mkF m 1 #[.val (.ref (n0 + ob0))] [(.ref (n0 + ob0))])) _
    refine st2 _ ?_
    show Steps p.tables e below (T2.setTop (mkF m 4 #[.val (.ref (n0 + ob0))] [(.int x1)])) _
    refine XS.i2l X2.here hx rfl (hb hby d4_4) rfl ?_
    show Steps p.tables e below (T2.setTop (mkF m 5 #[.val (.ref (n0 + ob0))] [(.long (x1.toInt64))])) _
    refine XS.aloadN X2.here hx rfl (hb hby d4_5) rfl rfl ?_
    show Steps p.tables e below (T2.setTop (mkF m 6 #[.val (.ref (n0 + ob0))] [(.ref (n0 + ob0)), (.long (x1.toInt64))])) _
    refine st4 _ ?_
    show Steps p.tables e below (T4.setTop (mkF m 9 #[.val (.ref (n0 + ob0))] [(.int x3), (.long (x1.toInt64))])) _
    refine XS.i2l X4.here hx rfl (hb hby d4_9) rfl ?_
    show Steps p.tables e below (T4.setTop (mkF m 10 #[.val (.ref (n0 + ob0))] [(.long (x3.toInt64)), (.long (x1.toInt64))])) _
    refine XS.ladd X4.here hx rfl (hb hby d4_10) rfl ?_
    exact k
  obtain ⟨rfl, rfl⟩ := own_inj hf
  exact Gl.outJ X4 hx hlk hret (hb hby d4_11) ⟨rfl, N0, by rw [e4]; exact O0⟩ (by show _ ≤ 0; omega) (by show _ ≤ 0; omega)
theorem d5_0 : decode prog_66_method_6_code 0 = .ok (.aload_n 0, 1) := by decide +kernel
theorem d5_1 : decode prog_66_method_6_code 1 = .ok (.getfield 7, 3) := by decide +kernel
theorem d5_4 : decode prog_66_method_6_code 4 = .ok (.ireturn, 1) := by decide +kernel
theorem pn_5 : plainName "com/example/eidwerk/eidwerk/tlv/Tlv$Header" = true := by first | (simp [plainName, overriddenIn]; done) | decide +kernel
def f5 (D : Hp) (ob0 : Nat) : Option (Int32 × Hp) :=
  (gI D ob0 0 0).bind fun x1 =>
  some (x1, D)
theorem ef_5 (m : MethodId) (n0 : Nat) (ob0 : Nat) : entryFrame m #[(.ref (n0 + ob0))] 1 = mkF m 0 #[.val (.ref (n0 + ob0))] [] := by first | (simp [entryFrame, mkF, argsToLocals, Value.category]; done) | rfl
set_option maxRecDepth 65536 in
set_option maxHeartbeats 40000000 in
theorem ct5 {l : Launch} {Z : State} {a0 : Array Value} (hw : ∀ d ∈ tables_1, d.before a0 Z = true) {n0 : Nat} {D D' : Hp} {ob0 : Nat} {r : Int32} (hf : f5 D ob0 = some (r, D')) :
    Ct Kt1 l Z (⟨"com/example/eidwerk/eidwerk/tlv/Tlv$Header", "tag", "()I"⟩ : MethodName) (.code (⟨"com/example/eidwerk/eidwerk/tlv/Tlv$Header", "tag", "()I"⟩ : MethodName) prog_66_method_6_code 1 (some .int)) ({ frames := 0, cells := 0, slots := 0, locals := 0 } : Room) n0 D #[(.ref (n0 + ob0))] (some (.int r)) D' := by
  refine Ct.of (plainFor_of_name pn_5) ?_
  intro p e s m below meth c T0 h0 hC X0 e0 O0
  obtain ⟨hx, hZ, hby, hml, hown, hnm, hret, hlk⟩ := id hC
  have hml : c.maxLocals = 1 := hml
  have hown : s.vm.findClass "com/example/eidwerk/eidwerk/tlv/Tlv$Header" = some m.cls := hown
  have hnm : meth.name = "tag" := hnm
  have N0 := Fr.nil n0
  refine Gl.on (fun t k => castTop (ef_5 m n0 ob0) k) ?_
  rw [f5] at hf
  obtain ⟨x1, hx1, hf⟩ := own_bind hf
  obtain ⟨T2, X2, e2, st2⟩ := getF X0 hx hZ hown (host := "") (Or.inl (hw _ (List.mem_of_getElem? (i := 14) rfl))) Via.refl e0 (O0.fld (gI_e hx1) rfl rfl) (g := (mkF m 1 #[.val (.ref (n0 + ob0))] [(.ref (n0 + ob0))])) rfl rfl (hb hby d5_1)
  refine Gl.on (B := T2.setTop (mkF m 4 #[.val (.ref (n0 + ob0))] [(.int x1)])) (fun t k => ?_) ?_
  · show Steps p.tables e below (T0.setTop (mkF m 0 #[.val (.ref (n0 + ob0))] [])) _
    refine XS.aloadN X0.here hx rfl (hb hby d5_0) rfl rfl ?_
    show Steps p.tables e below (T0.setTop (mkF m 1 #[.val (.ref (n0 + ob0))] [(.ref (n0 + ob0))])) _
    refine st2 _ ?_
    exact k
  obtain ⟨rfl, rfl⟩ := own_inj hf
  exact Gl.outI X2 hx hlk hret (hb hby d5_4) ⟨rfl, N0, by rw [e2]; exact O0⟩ (by show _ ≤ 0; omega) (by show _ ≤ 0; omega)
theorem d6_0 : decode prog_66_method_7_code 0 = .ok (.aload_n 0, 1) := by decide +kernel
theorem d6_1 : decode prog_66_method_7_code 1 = .ok (.getfield 13, 3) := by decide +kernel
theorem d6_4 : decode prog_66_method_7_code 4 = .ok (.ireturn, 1) := by decide +kernel
theorem pn_6 : plainName "com/example/eidwerk/eidwerk/tlv/Tlv$Header" = true := by first | (simp [plainName, overriddenIn]; done) | decide +kernel
def f6 (D : Hp) (ob0 : Nat) : Option (Int32 × Hp) :=
  (gI D ob0 0 1).bind fun x1 =>
  some (x1, D)
theorem ef_6 (m : MethodId) (n0 : Nat) (ob0 : Nat) : entryFrame m #[(.ref (n0 + ob0))] 1 = mkF m 0 #[.val (.ref (n0 + ob0))] [] := by first | (simp [entryFrame, mkF, argsToLocals, Value.category]; done) | rfl
set_option maxRecDepth 65536 in
set_option maxHeartbeats 40000000 in
theorem ct6 {l : Launch} {Z : State} {a0 : Array Value} (hw : ∀ d ∈ tables_1, d.before a0 Z = true) {n0 : Nat} {D D' : Hp} {ob0 : Nat} {r : Int32} (hf : f6 D ob0 = some (r, D')) :
    Ct Kt1 l Z (⟨"com/example/eidwerk/eidwerk/tlv/Tlv$Header", "headerLength", "()I"⟩ : MethodName) (.code (⟨"com/example/eidwerk/eidwerk/tlv/Tlv$Header", "headerLength", "()I"⟩ : MethodName) prog_66_method_7_code 1 (some .int)) ({ frames := 0, cells := 0, slots := 0, locals := 0 } : Room) n0 D #[(.ref (n0 + ob0))] (some (.int r)) D' := by
  refine Ct.of (plainFor_of_name pn_6) ?_
  intro p e s m below meth c T0 h0 hC X0 e0 O0
  obtain ⟨hx, hZ, hby, hml, hown, hnm, hret, hlk⟩ := id hC
  have hml : c.maxLocals = 1 := hml
  have hown : s.vm.findClass "com/example/eidwerk/eidwerk/tlv/Tlv$Header" = some m.cls := hown
  have hnm : meth.name = "headerLength" := hnm
  have N0 := Fr.nil n0
  refine Gl.on (fun t k => castTop (ef_6 m n0 ob0) k) ?_
  rw [f6] at hf
  obtain ⟨x1, hx1, hf⟩ := own_bind hf
  obtain ⟨T2, X2, e2, st2⟩ := getF X0 hx hZ hown (host := "") (Or.inl (hw _ (List.mem_of_getElem? (i := 16) rfl))) Via.refl e0 (O0.fld (gI_e hx1) rfl rfl) (g := (mkF m 1 #[.val (.ref (n0 + ob0))] [(.ref (n0 + ob0))])) rfl rfl (hb hby d6_1)
  refine Gl.on (B := T2.setTop (mkF m 4 #[.val (.ref (n0 + ob0))] [(.int x1)])) (fun t k => ?_) ?_
  · show Steps p.tables e below (T0.setTop (mkF m 0 #[.val (.ref (n0 + ob0))] [])) _
    refine XS.aloadN X0.here hx rfl (hb hby d6_0) rfl rfl ?_
    show Steps p.tables e below (T0.setTop (mkF m 1 #[.val (.ref (n0 + ob0))] [(.ref (n0 + ob0))])) _
    refine st2 _ ?_
    exact k
  obtain ⟨rfl, rfl⟩ := own_inj hf
  exact Gl.outI X2 hx hlk hret (hb hby d6_4) ⟨rfl, N0, by rw [e2]; exact O0⟩ (by show _ ≤ 0; omega) (by show _ ≤ 0; omega)
theorem d7_0 : decode prog_66_method_8_code 0 = .ok (.aload_n 0, 1) := by decide +kernel
theorem d7_1 : decode prog_66_method_8_code 1 = .ok (.getfield 16, 3) := by decide +kernel
theorem d7_4 : decode prog_66_method_8_code 4 = .ok (.ireturn, 1) := by decide +kernel
theorem pn_7 : plainName "com/example/eidwerk/eidwerk/tlv/Tlv$Header" = true := by first | (simp [plainName, overriddenIn]; done) | decide +kernel
def f7 (D : Hp) (ob0 : Nat) : Option (Int32 × Hp) :=
  (gI D ob0 0 2).bind fun x1 =>
  some (x1, D)
theorem ef_7 (m : MethodId) (n0 : Nat) (ob0 : Nat) : entryFrame m #[(.ref (n0 + ob0))] 1 = mkF m 0 #[.val (.ref (n0 + ob0))] [] := by first | (simp [entryFrame, mkF, argsToLocals, Value.category]; done) | rfl
set_option maxRecDepth 65536 in
set_option maxHeartbeats 40000000 in
theorem ct7 {l : Launch} {Z : State} {a0 : Array Value} (hw : ∀ d ∈ tables_1, d.before a0 Z = true) {n0 : Nat} {D D' : Hp} {ob0 : Nat} {r : Int32} (hf : f7 D ob0 = some (r, D')) :
    Ct Kt1 l Z (⟨"com/example/eidwerk/eidwerk/tlv/Tlv$Header", "valueLength", "()I"⟩ : MethodName) (.code (⟨"com/example/eidwerk/eidwerk/tlv/Tlv$Header", "valueLength", "()I"⟩ : MethodName) prog_66_method_8_code 1 (some .int)) ({ frames := 0, cells := 0, slots := 0, locals := 0 } : Room) n0 D #[(.ref (n0 + ob0))] (some (.int r)) D' := by
  refine Ct.of (plainFor_of_name pn_7) ?_
  intro p e s m below meth c T0 h0 hC X0 e0 O0
  obtain ⟨hx, hZ, hby, hml, hown, hnm, hret, hlk⟩ := id hC
  have hml : c.maxLocals = 1 := hml
  have hown : s.vm.findClass "com/example/eidwerk/eidwerk/tlv/Tlv$Header" = some m.cls := hown
  have hnm : meth.name = "valueLength" := hnm
  have N0 := Fr.nil n0
  refine Gl.on (fun t k => castTop (ef_7 m n0 ob0) k) ?_
  rw [f7] at hf
  obtain ⟨x1, hx1, hf⟩ := own_bind hf
  obtain ⟨T2, X2, e2, st2⟩ := getF X0 hx hZ hown (host := "") (Or.inl (hw _ (List.mem_of_getElem? (i := 18) rfl))) Via.refl e0 (O0.fld (gI_e hx1) rfl rfl) (g := (mkF m 1 #[.val (.ref (n0 + ob0))] [(.ref (n0 + ob0))])) rfl rfl (hb hby d7_1)
  refine Gl.on (B := T2.setTop (mkF m 4 #[.val (.ref (n0 + ob0))] [(.int x1)])) (fun t k => ?_) ?_
  · show Steps p.tables e below (T0.setTop (mkF m 0 #[.val (.ref (n0 + ob0))] [])) _
    refine XS.aloadN X0.here hx rfl (hb hby d7_0) rfl rfl ?_
    show Steps p.tables e below (T0.setTop (mkF m 1 #[.val (.ref (n0 + ob0))] [(.ref (n0 + ob0))])) _
    refine st2 _ ?_
    exact k
  obtain ⟨rfl, rfl⟩ := own_inj hf
  exact Gl.outI X2 hx hlk hret (hb hby d7_4) ⟨rfl, N0, by rw [e2]; exact O0⟩ (by show _ ≤ 0; omega) (by show _ ≤ 0; omega)
theorem pd_1 : parseMethodDescriptor "(III)V" = some ⟨[.int, .int, .int], none⟩ := by decide +kernel
theorem pd_2 : parseMethodDescriptor "()J" = some ⟨[], some .long⟩ := by decide +kernel
theorem pd_3 : parseMethodDescriptor "()I" = some ⟨[], some .int⟩ := by decide +kernel
theorem pn_0 : plainName "com/example/eidwerk/eidwerk/tlv/HeaderTotalLengthPinLaw" = true := by first | (simp [plainName, overriddenIn]; done) | decide +kernel
def b0_96 (D : Hp) (i6 : Int32) (i7 : Int32) (t0 : Int32) : Option (Int32 × Hp) :=
  if i6 = (0 : Int32) then (some ((0 : Int32), D)) else (if i7 = (0 : Int32) then (some ((0 : Int32), D)) else (if t0 = (0 : Int32) then (some ((0 : Int32), D)) else (some ((1 : Int32), D))))
set_option maxRecDepth 65536 in
set_option maxHeartbeats 40000000 in
theorem bt0_96 {p : Program} {l : Launch} {e : Env} {s : State} {m : MethodId} {args : Array Value} {below : List Frame} {meth : Method} {c : Code} {Z : State} {a0 : Array Value} {n0 : Nat} {D' : Hp} {r : Int32} {T0 : State} {locs : List Loc} {cells slots : Nat} {h0 : Heap} {D : Hp} {i0 : Int32} {i1 : Int32} {i2 : Int32} {ob3 : Nat} {j4 : Int64} {i6 : Int32} {i7 : Int32} {t0 : Int32} (hw : ∀ d ∈ tables_1, d.before a0 Z = true) (hC : Cx p s m meth c Z code maxLocals ret "com/example/eidwerk/eidwerk/tlv/HeaderTotalLengthPinLaw" "law") (X0 : Stand p l e room_1 s m args below meth c T0 locs cells slots) (e0 : T0.heap = h0) (O0 : Ow Kt1 Z h0 n0 D) (N0 : Fr n0 locs) (hcc : cells ≤ 1) (hss : slots ≤ 3) (hf : b0_96 D i6 i7 t0 = some (r, D')) : Gl p e below s 16 128 (Qw Kt1 Z n0 (some (.int r)) D') (T0.setTop (mkF m 96 #[.val (.int i0), .val (.int i1), .val (.int i2), .val (.ref (n0 + ob3)), .val (.long j4), .second, .val (.int i6), .val (.int i7), .unset] [(.int t0)])) := by
  obtain ⟨hx, hZ, hby, hml, hown, hnm, hret, hlk⟩ := id hC
  have hml : c.maxLocals = 9 := hml
  rw [b0_96] at hf
  refine Gl.on (B := T0.setTop (mkF m 100 #[.val (.int i0), .val (.int i1), .val (.int i2), .val (.ref (n0 + ob3)), .val (.long j4), .second, .val (.int i6), .val (.int i7), .val (.int t0)] [(.int i6)])) (fun t k => ?_) ?_
  · show Steps p.tables e below (T0.setTop (mkF m 96 #[.val (.int i0), .val (.int i1), .val (.int i2), .val (.ref (n0 + ob3)), .val (.long j4), .second, .val (.int i6), .val (.int i7), .unset] [(.int t0)])) _
    refine XS.istore X0.here hx rfl (hb hby at_96) rfl (l' := #[.val (.int i0), .val (.int i1), .val (.int i2), .val (.ref (n0 + ob3)), .val (.long j4), .second, .val (.int i6), .val (.int i7), .val (.int t0)]) rfl ?_
    show Steps p.tables e below (T0.setTop (mkF m 98 #[.val (.int i0), .val (.int i1), .val (.int i2), .val (.ref (n0 + ob3)), .val (.long j4), .second, .val (.int i6), .val (.int i7), .val (.int t0)] [])) _
    refine XS.iload X0.here hx rfl (hb hby at_98) rfl ?_
    exact k
  by_cases hc22 : i6 = (0 : Int32)
  · rw [if_pos hc22] at hf
    refine Gl.on (B := T0.setTop (mkF m 118 #[.val (.int i0), .val (.int i1), .val (.int i2), .val (.ref (n0 + ob3)), .val (.long j4), .second, .val (.int i6), .val (.int i7), .val (.int t0)] [(.int (0 : Int32))])) (fun t k => ?_) ?_
    · show Steps p.tables e below (T0.setTop (mkF m 100 #[.val (.int i0), .val (.int i1), .val (.int i2), .val (.ref (n0 + ob3)), .val (.long j4), .second, .val (.int i6), .val (.int i7), .val (.int t0)] [(.int i6)])) _
      refine XS.ifYes X0.here hx rfl (pc0 := 100) (pc' := 117) rfl (hb hby at_100) rfl ((if0 _ _).trans (teq hc22).1) (by decide) (by decide) ?_
      show Steps p.tables e below (T0.setTop (mkF m 117 #[.val (.int i0), .val (.int i1), .val (.int i2), .val (.ref (n0 + ob3)), .val (.long j4), .second, .val (.int i6), .val (.int i7), .val (.int t0)] [])) _
      refine XS.iconst X0.here hx rfl (hb hby at_117) ?_
      exact k
    obtain ⟨rfl, rfl⟩ := own_inj hf
    exact Gl.outN X0 hx hlk (t := .boolean) hret (by simp) (hb hby at_118) ⟨rfl, N0, by rw [e0]; exact O0⟩ (by show _ ≤ 16; omega) (by show _ ≤ 128; omega)
  · rw [if_neg hc22] at hf
    refine Gl.on (B := T0.setTop (mkF m 105 #[.val (.int i0), .val (.int i1), .val (.int i2), .val (.ref (n0 + ob3)), .val (.long j4), .second, .val (.int i6), .val (.int i7), .val (.int t0)] [(.int i7)])) (fun t k => ?_) ?_
    · show Steps p.tables e below (T0.setTop (mkF m 100 #[.val (.int i0), .val (.int i1), .val (.int i2), .val (.ref (n0 + ob3)), .val (.long j4), .second, .val (.int i6), .val (.int i7), .val (.int t0)] [(.int i6)])) _
      refine XS.ifNo X0.here hx rfl (hb hby at_100) rfl ((if0 _ _).trans (feq hc22).1) ?_
      show Steps p.tables e below (T0.setTop (mkF m 103 #[.val (.int i0), .val (.int i1), .val (.int i2), .val (.ref (n0 + ob3)), .val (.long j4), .second, .val (.int i6), .val (.int i7), .val (.int t0)] [])) _
      refine XS.iload X0.here hx rfl (hb hby at_103) rfl ?_
      exact k
    by_cases hc23 : i7 = (0 : Int32)
    · rw [if_pos hc23] at hf
      refine Gl.on (B := T0.setTop (mkF m 118 #[.val (.int i0), .val (.int i1), .val (.int i2), .val (.ref (n0 + ob3)), .val (.long j4), .second, .val (.int i6), .val (.int i7), .val (.int t0)] [(.int (0 : Int32))])) (fun t k => ?_) ?_
      · show Steps p.tables e below (T0.setTop (mkF m 105 #[.val (.int i0), .val (.int i1), .val (.int i2), .val (.ref (n0 + ob3)), .val (.long j4), .second, .val (.int i6), .val (.int i7), .val (.int t0)] [(.int i7)])) _
        refine XS.ifYes X0.here hx rfl (pc0 := 105) (pc' := 117) rfl (hb hby at_105) rfl ((if0 _ _).trans (teq hc23).1) (by decide) (by decide) ?_
        show Steps p.tables e below (T0.setTop (mkF m 117 #[.val (.int i0), .val (.int i1), .val (.int i2), .val (.ref (n0 + ob3)), .val (.long j4), .second, .val (.int i6), .val (.int i7), .val (.int t0)] [])) _
        refine XS.iconst X0.here hx rfl (hb hby at_117) ?_
        exact k
      obtain ⟨rfl, rfl⟩ := own_inj hf
      exact Gl.outN X0 hx hlk (t := .boolean) hret (by simp) (hb hby at_118) ⟨rfl, N0, by rw [e0]; exact O0⟩ (by show _ ≤ 16; omega) (by show _ ≤ 128; omega)
    · rw [if_neg hc23] at hf
      refine Gl.on (B := T0.setTop (mkF m 110 #[.val (.int i0), .val (.int i1), .val (.int i2), .val (.ref (n0 + ob3)), .val (.long j4), .second, .val (.int i6), .val (.int i7), .val (.int t0)] [(.int t0)])) (fun t k => ?_) ?_
      · show Steps p.tables e below (T0.setTop (mkF m 105 #[.val (.int i0), .val (.int i1), .val (.int i2), .val (.ref (n0 + ob3)), .val (.long j4), .second, .val (.int i6), .val (.int i7), .val (.int t0)] [(.int i7)])) _
        refine XS.ifNo X0.here hx rfl (hb hby at_105) rfl ((if0 _ _).trans (feq hc23).1) ?_
        show Steps p.tables e below (T0.setTop (mkF m 108 #[.val (.int i0), .val (.int i1), .val (.int i2), .val (.ref (n0 + ob3)), .val (.long j4), .second, .val (.int i6), .val (.int i7), .val (.int t0)] [])) _
        refine XS.iload X0.here hx rfl (hb hby at_108) rfl ?_
        exact k
      by_cases hc24 : t0 = (0 : Int32)
      · rw [if_pos hc24] at hf
        refine Gl.on (B := T0.setTop (mkF m 118 #[.val (.int i0), .val (.int i1), .val (.int i2), .val (.ref (n0 + ob3)), .val (.long j4), .second, .val (.int i6), .val (.int i7), .val (.int t0)] [(.int (0 : Int32))])) (fun t k => ?_) ?_
        · show Steps p.tables e below (T0.setTop (mkF m 110 #[.val (.int i0), .val (.int i1), .val (.int i2), .val (.ref (n0 + ob3)), .val (.long j4), .second, .val (.int i6), .val (.int i7), .val (.int t0)] [(.int t0)])) _
          refine XS.ifYes X0.here hx rfl (pc0 := 110) (pc' := 117) rfl (hb hby at_110) rfl ((if0 _ _).trans (teq hc24).1) (by decide) (by decide) ?_
          show Steps p.tables e below (T0.setTop (mkF m 117 #[.val (.int i0), .val (.int i1), .val (.int i2), .val (.ref (n0 + ob3)), .val (.long j4), .second, .val (.int i6), .val (.int i7), .val (.int t0)] [])) _
          refine XS.iconst X0.here hx rfl (hb hby at_117) ?_
          exact k
        obtain ⟨rfl, rfl⟩ := own_inj hf
        exact Gl.outN X0 hx hlk (t := .boolean) hret (by simp) (hb hby at_118) ⟨rfl, N0, by rw [e0]; exact O0⟩ (by show _ ≤ 16; omega) (by show _ ≤ 128; omega)
      · rw [if_neg hc24] at hf
        refine Gl.on (B := T0.setTop (mkF m 118 #[.val (.int i0), .val (.int i1), .val (.int i2), .val (.ref (n0 + ob3)), .val (.long j4), .second, .val (.int i6), .val (.int i7), .val (.int t0)] [(.int (1 : Int32))])) (fun t k => ?_) ?_
        · show Steps p.tables e below (T0.setTop (mkF m 110 #[.val (.int i0), .val (.int i1), .val (.int i2), .val (.ref (n0 + ob3)), .val (.long j4), .second, .val (.int i6), .val (.int i7), .val (.int t0)] [(.int t0)])) _
          refine XS.ifNo X0.here hx rfl (hb hby at_110) rfl ((if0 _ _).trans (feq hc24).1) ?_
          show Steps p.tables e below (T0.setTop (mkF m 113 #[.val (.int i0), .val (.int i1), .val (.int i2), .val (.ref (n0 + ob3)), .val (.long j4), .second, .val (.int i6), .val (.int i7), .val (.int t0)] [])) _
          refine XS.iconst X0.here hx rfl (hb hby at_113) ?_
          show Steps p.tables e below (T0.setTop (mkF m 114 #[.val (.int i0), .val (.int i1), .val (.int i2), .val (.ref (n0 + ob3)), .val (.long j4), .second, .val (.int i6), .val (.int i7), .val (.int t0)] [(.int (1 : Int32))])) _
          refine XS.goto X0.here hx rfl (pc0 := 114) (pc' := 118) rfl (hb hby at_114) (by decide) (by decide) ?_
          exact k
        obtain ⟨rfl, rfl⟩ := own_inj hf
        exact Gl.outN X0 hx hlk (t := .boolean) hret (by simp) (hb hby at_118) ⟨rfl, N0, by rw [e0]; exact O0⟩ (by show _ ≤ 16; omega) (by show _ ≤ 128; omega)
def b0_95 (D : Hp) (i6 : Int32) (i7 : Int32) : Option (Int32 × Hp) :=
  b0_96 D i6 i7 (0 : Int32)
set_option maxRecDepth 65536 in
set_option maxHeartbeats 40000000 in
theorem bt0_95 {p : Program} {l : Launch} {e : Env} {s : State} {m : MethodId} {args : Array Value} {below : List Frame} {meth : Method} {c : Code} {Z : State} {a0 : Array Value} {n0 : Nat} {D' : Hp} {r : Int32} {T0 : State} {locs : List Loc} {cells slots : Nat} {h0 : Heap} {D : Hp} {i0 : Int32} {i1 : Int32} {i2 : Int32} {ob3 : Nat} {j4 : Int64} {i6 : Int32} {i7 : Int32} (hw : ∀ d ∈ tables_1, d.before a0 Z = true) (hC : Cx p s m meth c Z code maxLocals ret "com/example/eidwerk/eidwerk/tlv/HeaderTotalLengthPinLaw" "law") (X0 : Stand p l e room_1 s m args below meth c T0 locs cells slots) (e0 : T0.heap = h0) (O0 : Ow Kt1 Z h0 n0 D) (N0 : Fr n0 locs) (hcc : cells ≤ 1) (hss : slots ≤ 3) (hf : b0_95 D i6 i7 = some (r, D')) : Gl p e below s 16 128 (Qw Kt1 Z n0 (some (.int r)) D') (T0.setTop (mkF m 95 #[.val (.int i0), .val (.int i1), .val (.int i2), .val (.ref (n0 + ob3)), .val (.long j4), .second, .val (.int i6), .val (.int i7), .unset] [])) := by
  obtain ⟨hx, hZ, hby, hml, hown, hnm, hret, hlk⟩ := id hC
  have hml : c.maxLocals = 9 := hml
  rw [b0_95] at hf
  refine Gl.on (B := T0.setTop (mkF m 96 #[.val (.int i0), .val (.int i1), .val (.int i2), .val (.ref (n0 + ob3)), .val (.long j4), .second, .val (.int i6), .val (.int i7), .unset] [(.int (0 : Int32))])) (fun t k => ?_) ?_
  · show Steps p.tables e below (T0.setTop (mkF m 95 #[.val (.int i0), .val (.int i1), .val (.int i2), .val (.ref (n0 + ob3)), .val (.long j4), .second, .val (.int i6), .val (.int i7), .unset] [])) _
    refine XS.iconst X0.here hx rfl (hb hby at_95) ?_
    exact k
  exact bt0_96 hw hC X0 e0 O0 N0 (by omega) (by omega) hf
def b0_65 (D : Hp) (i0 : Int32) (i1 : Int32) (i2 : Int32) (ob3 : Nat) (i6 : Int32) (t0 : Int32) : Option (Int32 × Hp) :=
  (ck D ob3 0).bind fun u11 => (f5 D ob3).bind fun q10 => own_let q10.1 fun x12 => own_let q10.2 fun D10 =>
  if x12 = i0 then ((ck D10 ob3 0).bind fun u15 => (f6 D10 ob3).bind fun q14 => own_let q14.1 fun x16 => own_let q14.2 fun D14 =>
  if x16 = i1 then ((ck D14 ob3 0).bind fun u19 => (f7 D14 ob3).bind fun q18 => own_let q18.1 fun x20 => own_let q18.2 fun D18 =>
  if x20 = i2 then (b0_96 D18 i6 t0 (1 : Int32)) else (b0_95 D18 i6 t0)) else (b0_95 D14 i6 t0)) else (b0_95 D10 i6 t0)
set_option maxRecDepth 65536 in
set_option maxHeartbeats 40000000 in
theorem bt0_65 {p : Program} {l : Launch} {e : Env} {s : State} {m : MethodId} {args : Array Value} {below : List Frame} {meth : Method} {c : Code} {Z : State} {a0 : Array Value} {n0 : Nat} {D' : Hp} {r : Int32} {T0 : State} {locs : List Loc} {cells slots : Nat} {h0 : Heap} {D : Hp} {i0 : Int32} {i1 : Int32} {i2 : Int32} {ob3 : Nat} {j4 : Int64} {i6 : Int32} {t0 : Int32} (hw : ∀ d ∈ tables_1, d.before a0 Z = true) (hC : Cx p s m meth c Z code maxLocals ret "com/example/eidwerk/eidwerk/tlv/HeaderTotalLengthPinLaw" "law") (X0 : Stand p l e room_1 s m args below meth c T0 locs cells slots) (e0 : T0.heap = h0) (O0 : Ow Kt1 Z h0 n0 D) (N0 : Fr n0 locs) (hcc : cells ≤ 1) (hss : slots ≤ 3) (hf : b0_65 D i0 i1 i2 ob3 i6 t0 = some (r, D')) : Gl p e below s 16 128 (Qw Kt1 Z n0 (some (.int r)) D') (T0.setTop (mkF m 65 #[.val (.int i0), .val (.int i1), .val (.int i2), .val (.ref (n0 + ob3)), .val (.long j4), .second, .val (.int i6), .unset, .unset] [(.int t0)])) := by
  obtain ⟨hx, hZ, hby, hml, hown, hnm, hret, hlk⟩ := id hC
  have hml : c.maxLocals = 9 := hml
  rw [b0_65] at hf
  obtain ⟨u11, hk10, hf⟩ := own_bind hf
  obtain ⟨⟨x12, D10⟩, hq10, hf⟩ := own_bind hf
  obtain ⟨_, rfl, hf⟩ := own_letE hf
  obtain ⟨_, rfl, hf⟩ := own_letE hf
  obtain ⟨T10, h10, L10, X10, e10, O10, N10, st10⟩ := callVW X0 hx hZ (y := (⟨"com/example/eidwerk/eidwerk/tlv/Tlv$Header", "tag", "()I"⟩ : MethodName)) hown (hw _ (List.mem_of_getElem? (i := 25) rfl)) (hw _ (List.mem_of_getElem? (i := 26) rfl)) (hw _ (List.mem_of_getElem? (i := 28) rfl)) (hw _ (List.mem_of_getElem? (i := 27) rfl)) (hw _ (List.mem_of_getElem? (i := 2) rfl)) (hw _ (List.mem_of_getElem? (i := 29) rfl)) (by decide) e0 O0 N0 hk10 rfl (as' := []) (ct5 hw hq10) (W := 0) (kc := 0) (ks := 0) rfl rfl (by decide) (by decide) (g := (mkF m 68 #[.val (.int i0), .val (.int i1), .val (.int i2), .val (.ref (n0 + ob3)), .val (.long j4), .second, .val (.int i6), .val (.int t0), .unset] [(.ref (n0 + ob3))])) rfl (by rw [hml]; rfl) (rest := []) (lenOf pd_3 rfl) rfl (by show 2 * 0 + _ ≤ _; exact Nat.le_of_eq rfl) (hb hby at_68) (by show _ + 0 ≤ 16; omega) (by show _ + 0 ≤ 128; omega)
  refine Gl.on (B := T10.setTop (mkF m 72 #[.val (.int i0), .val (.int i1), .val (.int i2), .val (.ref (n0 + ob3)), .val (.long j4), .second, .val (.int i6), .val (.int t0), .unset] [(.int i0), (.int x12)])) (fun t k => ?_) ?_
  · show Steps p.tables e below (T0.setTop (mkF m 65 #[.val (.int i0), .val (.int i1), .val (.int i2), .val (.ref (n0 + ob3)), .val (.long j4), .second, .val (.int i6), .unset, .unset] [(.int t0)])) _
    refine XS.istore X0.here hx rfl (hb hby at_65) rfl (l' := #[.val (.int i0), .val (.int i1), .val (.int i2), .val (.ref (n0 + ob3)), .val (.long j4), .second, .val (.int i6), .val (.int t0), .unset]) rfl ?_
    show Steps p.tables e below (T0.setTop (mkF m 67 #[.val (.int i0), .val (.int i1), .val (.int i2), .val (.ref (n0 + ob3)), .val (.long j4), .second, .val (.int i6), .val (.int t0), .unset] [])) _
    refine XS.aloadN X0.here hx rfl (hb hby at_67) rfl rfl ?_
    show Steps p.tables e below (T0.setTop (mkF m 68 #[.val (.int i0), .val (.int i1), .val (.int i2), .val (.ref (n0 + ob3)), .val (.long j4), .second, .val (.int i6), .val (.int t0), .unset] [(.ref (n0 + ob3))])) _
    refine st10 _ ?_
    show Steps p.tables e below (T10.setTop (mkF m 71 #[.val (.int i0), .val (.int i1), .val (.int i2), .val (.ref (n0 + ob3)), .val (.long j4), .second, .val (.int i6), .val (.int t0), .unset] [(.int x12)])) _
    refine XS.iloadN X10.here hx rfl (hb hby at_71) rfl ?_
    exact k
  by_cases hc13 : x12 = i0
  · rw [if_pos hc13] at hf
    obtain ⟨u15, hk14, hf⟩ := own_bind hf
    obtain ⟨⟨x16, D14⟩, hq14, hf⟩ := own_bind hf
    obtain ⟨_, rfl, hf⟩ := own_letE hf
    obtain ⟨_, rfl, hf⟩ := own_letE hf
    obtain ⟨T14, h14, L14, X14, e14, O14, N14, st14⟩ := callVW X10 hx hZ (y := (⟨"com/example/eidwerk/eidwerk/tlv/Tlv$Header", "headerLength", "()I"⟩ : MethodName)) hown (hw _ (List.mem_of_getElem? (i := 30) rfl)) (hw _ (List.mem_of_getElem? (i := 31) rfl)) (hw _ (List.mem_of_getElem? (i := 33) rfl)) (hw _ (List.mem_of_getElem? (i := 32) rfl)) (hw _ (List.mem_of_getElem? (i := 2) rfl)) (hw _ (List.mem_of_getElem? (i := 34) rfl)) (by decide) e10 O10 N10 hk14 rfl (as' := []) (ct6 hw hq14) (W := 0) (kc := 0) (ks := 0) rfl rfl (by decide) (by decide) (g := (mkF m 76 #[.val (.int i0), .val (.int i1), .val (.int i2), .val (.ref (n0 + ob3)), .val (.long j4), .second, .val (.int i6), .val (.int t0), .unset] [(.ref (n0 + ob3))])) rfl (by rw [hml]; rfl) (rest := []) (lenOf pd_3 rfl) rfl (by show 2 * 0 + _ ≤ _; exact Nat.le_of_eq rfl) (hb hby at_76) (by show _ + 0 ≤ 16; omega) (by show _ + 0 ≤ 128; omega)
    refine Gl.on (B := T14.setTop (mkF m 80 #[.val (.int i0), .val (.int i1), .val (.int i2), .val (.ref (n0 + ob3)), .val (.long j4), .second, .val (.int i6), .val (.int t0), .unset] [(.int i1), (.int x16)])) (fun t k => ?_) ?_
    · show Steps p.tables e below (T10.setTop (mkF m 72 #[.val (.int i0), .val (.int i1), .val (.int i2), .val (.ref (n0 + ob3)), .val (.long j4), .second, .val (.int i6), .val (.int t0), .unset] [(.int i0), (.int x12)])) _
      refine XS.icmpNo X10.here hx rfl (hb hby at_72) rfl (teq hc13).2 ?_
      show Steps p.tables e below (T10.setTop (mkF m 75 #[.val (.int i0), .val (.int i1), .val (.int i2), .val (.ref (n0 + ob3)), .val (.long j4), .second, .val (.int i6), .val (.int t0), .unset] [])) _
      refine XS.aloadN X10.here hx rfl (hb hby at_75) rfl rfl ?_
      show Steps p.tables e below (T10.setTop (mkF m 76 #[.val (.int i0), .val (.int i1), .val (.int i2), .val (.ref (n0 + ob3)), .val (.long j4), .second, .val (.int i6), .val (.int t0), .unset] [(.ref (n0 + ob3))])) _
      refine st14 _ ?_
      show Steps p.tables e below (T14.setTop (mkF m 79 #[.val (.int i0), .val (.int i1), .val (.int i2), .val (.ref (n0 + ob3)), .val (.long j4), .second, .val (.int i6), .val (.int t0), .unset] [(.int x16)])) _
      refine XS.iloadN X14.here hx rfl (hb hby at_79) rfl ?_
      exact k
    by_cases hc17 : x16 = i1
    · rw [if_pos hc17] at hf
      obtain ⟨u19, hk18, hf⟩ := own_bind hf
      obtain ⟨⟨x20, D18⟩, hq18, hf⟩ := own_bind hf
      obtain ⟨_, rfl, hf⟩ := own_letE hf
      obtain ⟨_, rfl, hf⟩ := own_letE hf
      obtain ⟨T18, h18, L18, X18, e18, O18, N18, st18⟩ := callVW X14 hx hZ (y := (⟨"com/example/eidwerk/eidwerk/tlv/Tlv$Header", "valueLength", "()I"⟩ : MethodName)) hown (hw _ (List.mem_of_getElem? (i := 35) rfl)) (hw _ (List.mem_of_getElem? (i := 36) rfl)) (hw _ (List.mem_of_getElem? (i := 38) rfl)) (hw _ (List.mem_of_getElem? (i := 37) rfl)) (hw _ (List.mem_of_getElem? (i := 2) rfl)) (hw _ (List.mem_of_getElem? (i := 39) rfl)) (by decide) e14 O14 N14 hk18 rfl (as' := []) (ct7 hw hq18) (W := 0) (kc := 0) (ks := 0) rfl rfl (by decide) (by decide) (g := (mkF m 84 #[.val (.int i0), .val (.int i1), .val (.int i2), .val (.ref (n0 + ob3)), .val (.long j4), .second, .val (.int i6), .val (.int t0), .unset] [(.ref (n0 + ob3))])) rfl (by rw [hml]; rfl) (rest := []) (lenOf pd_3 rfl) rfl (by show 2 * 0 + _ ≤ _; exact Nat.le_of_eq rfl) (hb hby at_84) (by show _ + 0 ≤ 16; omega) (by show _ + 0 ≤ 128; omega)
      refine Gl.on (B := T18.setTop (mkF m 88 #[.val (.int i0), .val (.int i1), .val (.int i2), .val (.ref (n0 + ob3)), .val (.long j4), .second, .val (.int i6), .val (.int t0), .unset] [(.int i2), (.int x20)])) (fun t k => ?_) ?_
      · show Steps p.tables e below (T14.setTop (mkF m 80 #[.val (.int i0), .val (.int i1), .val (.int i2), .val (.ref (n0 + ob3)), .val (.long j4), .second, .val (.int i6), .val (.int t0), .unset] [(.int i1), (.int x16)])) _
        refine XS.icmpNo X14.here hx rfl (hb hby at_80) rfl (teq hc17).2 ?_
        show Steps p.tables e below (T14.setTop (mkF m 83 #[.val (.int i0), .val (.int i1), .val (.int i2), .val (.ref (n0 + ob3)), .val (.long j4), .second, .val (.int i6), .val (.int t0), .unset] [])) _
        refine XS.aloadN X14.here hx rfl (hb hby at_83) rfl rfl ?_
        show Steps p.tables e below (T14.setTop (mkF m 84 #[.val (.int i0), .val (.int i1), .val (.int i2), .val (.ref (n0 + ob3)), .val (.long j4), .second, .val (.int i6), .val (.int t0), .unset] [(.ref (n0 + ob3))])) _
        refine st18 _ ?_
        show Steps p.tables e below (T18.setTop (mkF m 87 #[.val (.int i0), .val (.int i1), .val (.int i2), .val (.ref (n0 + ob3)), .val (.long j4), .second, .val (.int i6), .val (.int t0), .unset] [(.int x20)])) _
        refine XS.iloadN X18.here hx rfl (hb hby at_87) rfl ?_
        exact k
      by_cases hc21 : x20 = i2
      · rw [if_pos hc21] at hf
        refine Gl.on (B := T18.setTop (mkF m 96 #[.val (.int i0), .val (.int i1), .val (.int i2), .val (.ref (n0 + ob3)), .val (.long j4), .second, .val (.int i6), .val (.int t0), .unset] [(.int (1 : Int32))])) (fun t k => ?_) ?_
        · show Steps p.tables e below (T18.setTop (mkF m 88 #[.val (.int i0), .val (.int i1), .val (.int i2), .val (.ref (n0 + ob3)), .val (.long j4), .second, .val (.int i6), .val (.int t0), .unset] [(.int i2), (.int x20)])) _
          refine XS.icmpNo X18.here hx rfl (hb hby at_88) rfl (teq hc21).2 ?_
          show Steps p.tables e below (T18.setTop (mkF m 91 #[.val (.int i0), .val (.int i1), .val (.int i2), .val (.ref (n0 + ob3)), .val (.long j4), .second, .val (.int i6), .val (.int t0), .unset] [])) _
          refine XS.iconst X18.here hx rfl (hb hby at_91) ?_
          show Steps p.tables e below (T18.setTop (mkF m 92 #[.val (.int i0), .val (.int i1), .val (.int i2), .val (.ref (n0 + ob3)), .val (.long j4), .second, .val (.int i6), .val (.int t0), .unset] [(.int (1 : Int32))])) _
          refine XS.goto X18.here hx rfl (pc0 := 92) (pc' := 96) rfl (hb hby at_92) (by decide) (by decide) ?_
          exact k
        exact bt0_96 hw hC X18 e18 O18 N18 (by omega) (by omega) hf
      · rw [if_neg hc21] at hf
        refine Gl.on (B := T18.setTop (mkF m 95 #[.val (.int i0), .val (.int i1), .val (.int i2), .val (.ref (n0 + ob3)), .val (.long j4), .second, .val (.int i6), .val (.int t0), .unset] [])) (fun t k => ?_) ?_
        · show Steps p.tables e below (T18.setTop (mkF m 88 #[.val (.int i0), .val (.int i1), .val (.int i2), .val (.ref (n0 + ob3)), .val (.long j4), .second, .val (.int i6), .val (.int t0), .unset] [(.int i2), (.int x20)])) _
          refine XS.icmpYes X18.here hx rfl (pc0 := 88) (pc' := 95) rfl (hb hby at_88) rfl (feq hc21).2 (by decide) (by decide) ?_
          exact k
        exact bt0_95 hw hC X18 e18 O18 N18 (by omega) (by omega) hf
    · rw [if_neg hc17] at hf
      refine Gl.on (B := T14.setTop (mkF m 95 #[.val (.int i0), .val (.int i1), .val (.int i2), .val (.ref (n0 + ob3)), .val (.long j4), .second, .val (.int i6), .val (.int t0), .unset] [])) (fun t k => ?_) ?_
      · show Steps p.tables e below (T14.setTop (mkF m 80 #[.val (.int i0), .val (.int i1), .val (.int i2), .val (.ref (n0 + ob3)), .val (.long j4), .second, .val (.int i6), .val (.int t0), .unset] [(.int i1), (.int x16)])) _
        refine XS.icmpYes X14.here hx rfl (pc0 := 80) (pc' := 95) rfl (hb hby at_80) rfl (feq hc17).2 (by decide) (by decide) ?_
        exact k
      exact bt0_95 hw hC X14 e14 O14 N14 (by omega) (by omega) hf
  · rw [if_neg hc13] at hf
    refine Gl.on (B := T10.setTop (mkF m 95 #[.val (.int i0), .val (.int i1), .val (.int i2), .val (.ref (n0 + ob3)), .val (.long j4), .second, .val (.int i6), .val (.int t0), .unset] [])) (fun t k => ?_) ?_
    · show Steps p.tables e below (T10.setTop (mkF m 72 #[.val (.int i0), .val (.int i1), .val (.int i2), .val (.ref (n0 + ob3)), .val (.long j4), .second, .val (.int i6), .val (.int t0), .unset] [(.int i0), (.int x12)])) _
      refine XS.icmpYes X10.here hx rfl (pc0 := 72) (pc' := 95) rfl (hb hby at_72) rfl (feq hc13).2 (by decide) (by decide) ?_
      exact k
    exact bt0_95 hw hC X10 e10 O10 N10 (by omega) (by omega) hf
def b0_57 (D : Hp) (i0 : Int32) (i1 : Int32) (i2 : Int32) (ob3 : Nat) (i6 : Int32) (t0 : Int32) (t1 : Int32) : Option (Int32 × Hp) :=
  if t1 = t0 then (b0_65 D i0 i1 i2 ob3 i6 (1 : Int32)) else (b0_65 D i0 i1 i2 ob3 i6 (0 : Int32))
set_option maxRecDepth 65536 in
set_option maxHeartbeats 40000000 in
theorem bt0_57 {p : Program} {l : Launch} {e : Env} {s : State} {m : MethodId} {args : Array Value} {below : List Frame} {meth : Method} {c : Code} {Z : State} {a0 : Array Value} {n0 : Nat} {D' : Hp} {r : Int32} {T0 : State} {locs : List Loc} {cells slots : Nat} {h0 : Heap} {D : Hp} {i0 : Int32} {i1 : Int32} {i2 : Int32} {ob3 : Nat} {j4 : Int64} {i6 : Int32} {t0 : Int32} {t1 : Int32} (hw : ∀ d ∈ tables_1, d.before a0 Z = true) (hC : Cx p s m meth c Z code maxLocals ret "com/example/eidwerk/eidwerk/tlv/HeaderTotalLengthPinLaw" "law") (X0 : Stand p l e room_1 s m args below meth c T0 locs cells slots) (e0 : T0.heap = h0) (O0 : Ow Kt1 Z h0 n0 D) (N0 : Fr n0 locs) (hcc : cells ≤ 1) (hss : slots ≤ 3) (hf : b0_57 D i0 i1 i2 ob3 i6 t0 t1 = some (r, D')) : Gl p e below s 16 128 (Qw Kt1 Z n0 (some (.int r)) D') (T0.setTop (mkF m 57 #[.val (.int i0), .val (.int i1), .val (.int i2), .val (.ref (n0 + ob3)), .val (.long j4), .second, .val (.int i6), .unset, .unset] [(.int t0), (.int t1)])) := by
  obtain ⟨hx, hZ, hby, hml, hown, hnm, hret, hlk⟩ := id hC
  have hml : c.maxLocals = 9 := hml
  rw [b0_57] at hf
  by_cases hc9 : t1 = t0
  · rw [if_pos hc9] at hf
    refine Gl.on (B := T0.setTop (mkF m 65 #[.val (.int i0), .val (.int i1), .val (.int i2), .val (.ref (n0 + ob3)), .val (.long j4), .second, .val (.int i6), .unset, .unset] [(.int (1 : Int32))])) (fun t k => ?_) ?_
    · show Steps p.tables e below (T0.setTop (mkF m 57 #[.val (.int i0), .val (.int i1), .val (.int i2), .val (.ref (n0 + ob3)), .val (.long j4), .second, .val (.int i6), .unset, .unset] [(.int t0), (.int t1)])) _
      refine XS.icmpNo X0.here hx rfl (hb hby at_57) rfl (teq hc9).2 ?_
      show Steps p.tables e below (T0.setTop (mkF m 60 #[.val (.int i0), .val (.int i1), .val (.int i2), .val (.ref (n0 + ob3)), .val (.long j4), .second, .val (.int i6), .unset, .unset] [])) _
      refine XS.iconst X0.here hx rfl (hb hby at_60) ?_
      show Steps p.tables e below (T0.setTop (mkF m 61 #[.val (.int i0), .val (.int i1), .val (.int i2), .val (.ref (n0 + ob3)), .val (.long j4), .second, .val (.int i6), .unset, .unset] [(.int (1 : Int32))])) _
      refine XS.goto X0.here hx rfl (pc0 := 61) (pc' := 65) rfl (hb hby at_61) (by decide) (by decide) ?_
      exact k
    exact bt0_65 hw hC X0 e0 O0 N0 (by omega) (by omega) hf
  · rw [if_neg hc9] at hf
    refine Gl.on (B := T0.setTop (mkF m 65 #[.val (.int i0), .val (.int i1), .val (.int i2), .val (.ref (n0 + ob3)), .val (.long j4), .second, .val (.int i6), .unset, .unset] [(.int (0 : Int32))])) (fun t k => ?_) ?_
    · show Steps p.tables e below (T0.setTop (mkF m 57 #[.val (.int i0), .val (.int i1), .val (.int i2), .val (.ref (n0 + ob3)), .val (.long j4), .second, .val (.int i6), .unset, .unset] [(.int t0), (.int t1)])) _
      refine XS.icmpYes X0.here hx rfl (pc0 := 57) (pc' := 64) rfl (hb hby at_57) rfl (feq hc9).2 (by decide) (by decide) ?_
      show Steps p.tables e below (T0.setTop (mkF m 64 #[.val (.int i0), .val (.int i1), .val (.int i2), .val (.ref (n0 + ob3)), .val (.long j4), .second, .val (.int i6), .unset, .unset] [])) _
      refine XS.iconst X0.here hx rfl (hb hby at_64) ?_
      exact k
    exact bt0_65 hw hC X0 e0 O0 N0 (by omega) (by omega) hf
def b0_44 (D : Hp) (i0 : Int32) (i1 : Int32) (i2 : Int32) (ob3 : Nat) (j4 : Int64) (i6 : Int32) (t0 : Int32) : Option (Int32 × Hp) :=
  if j4 < (i1.toInt64) then (b0_57 D i0 i1 i2 ob3 i6 (0 : Int32) t0) else (b0_57 D i0 i1 i2 ob3 i6 (1 : Int32) t0)
set_option maxRecDepth 65536 in
set_option maxHeartbeats 40000000 in
theorem bt0_44 {p : Program} {l : Launch} {e : Env} {s : State} {m : MethodId} {args : Array Value} {below : List Frame} {meth : Method} {c : Code} {Z : State} {a0 : Array Value} {n0 : Nat} {D' : Hp} {r : Int32} {T0 : State} {locs : List Loc} {cells slots : Nat} {h0 : Heap} {D : Hp} {i0 : Int32} {i1 : Int32} {i2 : Int32} {ob3 : Nat} {j4 : Int64} {i6 : Int32} {t0 : Int32} (hw : ∀ d ∈ tables_1, d.before a0 Z = true) (hC : Cx p s m meth c Z code maxLocals ret "com/example/eidwerk/eidwerk/tlv/HeaderTotalLengthPinLaw" "law") (X0 : Stand p l e room_1 s m args below meth c T0 locs cells slots) (e0 : T0.heap = h0) (O0 : Ow Kt1 Z h0 n0 D) (N0 : Fr n0 locs) (hcc : cells ≤ 1) (hss : slots ≤ 3) (hf : b0_44 D i0 i1 i2 ob3 j4 i6 t0 = some (r, D')) : Gl p e below s 16 128 (Qw Kt1 Z n0 (some (.int r)) D') (T0.setTop (mkF m 44 #[.val (.int i0), .val (.int i1), .val (.int i2), .val (.ref (n0 + ob3)), .val (.long j4), .second, .val (.int i6), .unset, .unset] [(.int t0)])) := by
  obtain ⟨hx, hZ, hby, hml, hown, hnm, hret, hlk⟩ := id hC
  have hml : c.maxLocals = 9 := hml
  rw [b0_44] at hf
  refine Gl.on (B := T0.setTop (mkF m 49 #[.val (.int i0), .val (.int i1), .val (.int i2), .val (.ref (n0 + ob3)), .val (.long j4), .second, .val (.int i6), .unset, .unset] [(.int (lcmpW j4 (i1.toInt64))), (.int t0)])) (fun t k => ?_) ?_
  · show Steps p.tables e below (T0.setTop (mkF m 44 #[.val (.int i0), .val (.int i1), .val (.int i2), .val (.ref (n0 + ob3)), .val (.long j4), .second, .val (.int i6), .unset, .unset] [(.int t0)])) _
    refine XS.lload X0.here hx rfl (hb hby at_44) rfl ?_
    show Steps p.tables e below (T0.setTop (mkF m 46 #[.val (.int i0), .val (.int i1), .val (.int i2), .val (.ref (n0 + ob3)), .val (.long j4), .second, .val (.int i6), .unset, .unset] [(.long j4), (.int t0)])) _
    refine XS.iloadN X0.here hx rfl (hb hby at_46) rfl ?_
    show Steps p.tables e below (T0.setTop (mkF m 47 #[.val (.int i0), .val (.int i1), .val (.int i2), .val (.ref (n0 + ob3)), .val (.long j4), .second, .val (.int i6), .unset, .unset] [(.int i1), (.long j4), (.int t0)])) _
    refine XS.i2l X0.here hx rfl (hb hby at_47) rfl ?_
    show Steps p.tables e below (T0.setTop (mkF m 48 #[.val (.int i0), .val (.int i1), .val (.int i2), .val (.ref (n0 + ob3)), .val (.long j4), .second, .val (.int i6), .unset, .unset] [(.long (i1.toInt64)), (.long j4), (.int t0)])) _
    refine XS.lcmp X0.here hx rfl (hb hby at_48) rfl ?_
    exact k
  by_cases hc8 : j4 < (i1.toInt64)
  · rw [if_pos hc8] at hf
    refine Gl.on (B := T0.setTop (mkF m 57 #[.val (.int i0), .val (.int i1), .val (.int i2), .val (.ref (n0 + ob3)), .val (.long j4), .second, .val (.int i6), .unset, .unset] [(.int (0 : Int32)), (.int t0)])) (fun t k => ?_) ?_
    · show Steps p.tables e below (T0.setTop (mkF m 49 #[.val (.int i0), .val (.int i1), .val (.int i2), .val (.ref (n0 + ob3)), .val (.long j4), .second, .val (.int i6), .unset, .unset] [(.int (lcmpW j4 (i1.toInt64))), (.int t0)])) _
      refine XS.ifYes X0.here hx rfl (pc0 := 49) (pc' := 56) rfl (hb hby at_49) rfl ((if0 _ _).trans (tlt ((lw_lt _ _).mpr hc8)).1) (by decide) (by decide) ?_
      show Steps p.tables e below (T0.setTop (mkF m 56 #[.val (.int i0), .val (.int i1), .val (.int i2), .val (.ref (n0 + ob3)), .val (.long j4), .second, .val (.int i6), .unset, .unset] [(.int t0)])) _
      refine XS.iconst X0.here hx rfl (hb hby at_56) ?_
      exact k
    exact bt0_57 hw hC X0 e0 O0 N0 (by omega) (by omega) hf
  · rw [if_neg hc8] at hf
    refine Gl.on (B := T0.setTop (mkF m 57 #[.val (.int i0), .val (.int i1), .val (.int i2), .val (.ref (n0 + ob3)), .val (.long j4), .second, .val (.int i6), .unset, .unset] [(.int (1 : Int32)), (.int t0)])) (fun t k => ?_) ?_
    · show Steps p.tables e below (T0.setTop (mkF m 49 #[.val (.int i0), .val (.int i1), .val (.int i2), .val (.ref (n0 + ob3)), .val (.long j4), .second, .val (.int i6), .unset, .unset] [(.int (lcmpW j4 (i1.toInt64))), (.int t0)])) _
      refine XS.ifNo X0.here hx rfl (hb hby at_49) rfl ((if0 _ _).trans (flt (mt (lw_lt _ _).mp hc8)).1) ?_
      show Steps p.tables e below (T0.setTop (mkF m 52 #[.val (.int i0), .val (.int i1), .val (.int i2), .val (.ref (n0 + ob3)), .val (.long j4), .second, .val (.int i6), .unset, .unset] [(.int t0)])) _
      refine XS.iconst X0.here hx rfl (hb hby at_52) ?_
      show Steps p.tables e below (T0.setTop (mkF m 53 #[.val (.int i0), .val (.int i1), .val (.int i2), .val (.ref (n0 + ob3)), .val (.long j4), .second, .val (.int i6), .unset, .unset] [(.int (1 : Int32)), (.int t0)])) _
      refine XS.goto X0.here hx rfl (pc0 := 53) (pc' := 57) rfl (hb hby at_53) (by decide) (by decide) ?_
      exact k
    exact bt0_57 hw hC X0 e0 O0 N0 (by omega) (by omega) hf
def b0_33 (D : Hp) (i0 : Int32) (i1 : Int32) (i2 : Int32) (ob3 : Nat) (j4 : Int64) (t0 : Int32) : Option (Int32 × Hp) :=
  if i2 < (0 : Int32) then (b0_44 D i0 i1 i2 ob3 j4 t0 (0 : Int32)) else (b0_44 D i0 i1 i2 ob3 j4 t0 (1 : Int32))
set_option maxRecDepth 65536 in
set_option maxHeartbeats 40000000 in
theorem bt0_33 {p : Program} {l : Launch} {e : Env} {s : State} {m : MethodId} {args : Array Value} {below : List Frame} {meth : Method} {c : Code} {Z : State} {a0 : Array Value} {n0 : Nat} {D' : Hp} {r : Int32} {T0 : State} {locs : List Loc} {cells slots : Nat} {h0 : Heap} {D : Hp} {i0 : Int32} {i1 : Int32} {i2 : Int32} {ob3 : Nat} {j4 : Int64} {t0 : Int32} (hw : ∀ d ∈ tables_1, d.before a0 Z = true) (hC : Cx p s m meth c Z code maxLocals ret "com/example/eidwerk/eidwerk/tlv/HeaderTotalLengthPinLaw" "law") (X0 : Stand p l e room_1 s m args below meth c T0 locs cells slots) (e0 : T0.heap = h0) (O0 : Ow Kt1 Z h0 n0 D) (N0 : Fr n0 locs) (hcc : cells ≤ 1) (hss : slots ≤ 3) (hf : b0_33 D i0 i1 i2 ob3 j4 t0 = some (r, D')) : Gl p e below s 16 128 (Qw Kt1 Z n0 (some (.int r)) D') (T0.setTop (mkF m 33 #[.val (.int i0), .val (.int i1), .val (.int i2), .val (.ref (n0 + ob3)), .val (.long j4), .second, .unset, .unset, .unset] [(.int t0)])) := by
  obtain ⟨hx, hZ, hby, hml, hown, hnm, hret, hlk⟩ := id hC
  have hml : c.maxLocals = 9 := hml
  rw [b0_33] at hf
  refine Gl.on (B := T0.setTop (mkF m 36 #[.val (.int i0), .val (.int i1), .val (.int i2), .val (.ref (n0 + ob3)), .val (.long j4), .second, .val (.int t0), .unset, .unset] [(.int i2)])) (fun t k => ?_) ?_
  · show Steps p.tables e below (T0.setTop (mkF m 33 #[.val (.int i0), .val (.int i1), .val (.int i2), .val (.ref (n0 + ob3)), .val (.long j4), .second, .unset, .unset, .unset] [(.int t0)])) _
    refine XS.istore X0.here hx rfl (hb hby at_33) rfl (l' := #[.val (.int i0), .val (.int i1), .val (.int i2), .val (.ref (n0 + ob3)), .val (.long j4), .second, .val (.int t0), .unset, .unset]) rfl ?_
    show Steps p.tables e below (T0.setTop (mkF m 35 #[.val (.int i0), .val (.int i1), .val (.int i2), .val (.ref (n0 + ob3)), .val (.long j4), .second, .val (.int t0), .unset, .unset] [])) _
    refine XS.iloadN X0.here hx rfl (hb hby at_35) rfl ?_
    exact k
  by_cases hc7 : i2 < (0 : Int32)
  · rw [if_pos hc7] at hf
    refine Gl.on (B := T0.setTop (mkF m 44 #[.val (.int i0), .val (.int i1), .val (.int i2), .val (.ref (n0 + ob3)), .val (.long j4), .second, .val (.int t0), .unset, .unset] [(.int (0 : Int32))])) (fun t k => ?_) ?_
    · show Steps p.tables e below (T0.setTop (mkF m 36 #[.val (.int i0), .val (.int i1), .val (.int i2), .val (.ref (n0 + ob3)), .val (.long j4), .second, .val (.int t0), .unset, .unset] [(.int i2)])) _
      refine XS.ifYes X0.here hx rfl (pc0 := 36) (pc' := 43) rfl (hb hby at_36) rfl ((if0 _ _).trans (tlt hc7).1) (by decide) (by decide) ?_
      show Steps p.tables e below (T0.setTop (mkF m 43 #[.val (.int i0), .val (.int i1), .val (.int i2), .val (.ref (n0 + ob3)), .val (.long j4), .second, .val (.int t0), .unset, .unset] [])) _
      refine XS.iconst X0.here hx rfl (hb hby at_43) ?_
      exact k
    exact bt0_44 hw hC X0 e0 O0 N0 (by omega) (by omega) hf
  · rw [if_neg hc7] at hf
    refine Gl.on (B := T0.setTop (mkF m 44 #[.val (.int i0), .val (.int i1), .val (.int i2), .val (.ref (n0 + ob3)), .val (.long j4), .second, .val (.int t0), .unset, .unset] [(.int (1 : Int32))])) (fun t k => ?_) ?_
    · show Steps p.tables e below (T0.setTop (mkF m 36 #[.val (.int i0), .val (.int i1), .val (.int i2), .val (.ref (n0 + ob3)), .val (.long j4), .second, .val (.int t0), .unset, .unset] [(.int i2)])) _
      refine XS.ifNo X0.here hx rfl (hb hby at_36) rfl ((if0 _ _).trans (flt hc7).1) ?_
      show Steps p.tables e below (T0.setTop (mkF m 39 #[.val (.int i0), .val (.int i1), .val (.int i2), .val (.ref (n0 + ob3)), .val (.long j4), .second, .val (.int t0), .unset, .unset] [])) _
      refine XS.iconst X0.here hx rfl (hb hby at_39) ?_
      show Steps p.tables e below (T0.setTop (mkF m 40 #[.val (.int i0), .val (.int i1), .val (.int i2), .val (.ref (n0 + ob3)), .val (.long j4), .second, .val (.int t0), .unset, .unset] [(.int (1 : Int32))])) _
      refine XS.goto X0.here hx rfl (pc0 := 40) (pc' := 44) rfl (hb hby at_40) (by decide) (by decide) ?_
      exact k
    exact bt0_44 hw hC X0 e0 O0 N0 (by omega) (by omega) hf
def f0 (D : Hp) (i0 : Int32) (i1 : Int32) (i2 : Int32) : Option (Int32 × Hp) :=
  own_let (D.length) fun a1 => own_let (D ++ [(0, [(.int (0 : Int32)), (.int (0 : Int32)), (.int (0 : Int32))])]) fun D1 =>
  (f1 D1 a1 i0 i1 i2).bind fun D2 =>
  (ck D2 a1 0).bind fun u4 => (f4 D2 a1).bind fun q3 => own_let q3.1 fun x5 => own_let q3.2 fun D3 =>
  if (x5 - (i1.toInt64)) = (i2.toInt64) then (b0_33 D3 i0 i1 i2 a1 x5 (1 : Int32)) else (b0_33 D3 i0 i1 i2 a1 x5 (0 : Int32))
theorem ef_0 (m : MethodId) (i0 : Int32) (i1 : Int32) (i2 : Int32) : entryFrame m #[(.int i0), (.int i1), (.int i2)] maxLocals = mkF m 0 #[.val (.int i0), .val (.int i1), .val (.int i2), .unset, .unset, .unset, .unset, .unset, .unset] [] := by first | (simp [entryFrame, mkF, argsToLocals, Value.category, maxLocals]; done) | rfl
set_option maxRecDepth 65536 in
set_option maxHeartbeats 40000000 in
theorem ct0 {l : Launch} {Z : State} {a0 : Array Value} (hw : ∀ d ∈ tables_1, d.before a0 Z = true) {n0 : Nat} {D D' : Hp} {i0 : Int32} {i1 : Int32} {i2 : Int32} {r : Int32} (hf : f0 D i0 i1 i2 = some (r, D')) :
    Ct Kt1 l Z x (.code x code maxLocals ret) room_1 n0 D #[(.int i0), (.int i1), (.int i2)] (some (.int r)) D' := by
  refine Ct.of (plainFor_of_name pn_0) ?_
  intro p e s m below meth c T0 h0 hC X0 e0 O0
  obtain ⟨hx, hZ, hby, hml, hown, hnm, hret, hlk⟩ := id hC
  have hml : c.maxLocals = 9 := hml
  have hown : s.vm.findClass "com/example/eidwerk/eidwerk/tlv/HeaderTotalLengthPinLaw" = some m.cls := hown
  have hnm : meth.name = "law" := hnm
  have N0 := Fr.nil n0
  refine Gl.on (fun t k => castTop (ef_0 m i0 i1 i2) k) ?_
  rw [f0] at hf
  obtain ⟨a1, ha1, hf⟩ := own_letE hf
  obtain ⟨D1, hD1, hf⟩ := own_letE hf
  obtain ⟨T1, h1, X1, e1, O1, st1⟩ := newW X0 hx hZ hown (hw _ (List.mem_of_getElem? (i := 0) rfl)) (hw _ (List.mem_of_getElem? (i := 1) rfl)) (hw _ (List.mem_of_getElem? (i := 2) rfl)) (lay1 hw) e0 O0 (t := 0) rfl (ds := [(.int (0 : Int32)), (.int (0 : Int32)), (.int (0 : Int32))]) (by decide) (g := (mkF m 0 #[.val (.int i0), .val (.int i1), .val (.int i2), .unset, .unset, .unset, .unset, .unset, .unset] [])) rfl (hb hby at_0) (by show _ + 1 ≤ 16; omega) (by show _ + 3 ≤ 128; omega)
  rw [ha1] at st1
  rw [hD1] at O1
  obtain ⟨D2, hq2, hf⟩ := own_bind hf
  obtain ⟨T2, h2, L2, X2, e2, O2, N2, st2⟩ := callIW X1 hx hZ (y := (⟨"com/example/eidwerk/eidwerk/tlv/Tlv$Header", "<init>", "(III)V"⟩ : MethodName)) rfl hown (hw _ (List.mem_of_getElem? (i := 3) rfl)) (hw _ (List.mem_of_getElem? (i := 4) rfl)) (hw _ (List.mem_of_getElem? (i := 2) rfl)) (hw _ (List.mem_of_getElem? (i := 5) rfl)) (by decide) e1 O1 N0 (as' := [(.int i0), (.int i1), (.int i2)]) (ct1 hw hq2) (W := 1) (kc := 0) (ks := 0) rfl rfl (by decide) (by decide) (g := (mkF m 7 #[.val (.int i0), .val (.int i1), .val (.int i2), .unset, .unset, .unset, .unset, .unset, .unset] [(.int i2), (.int i1), (.int i0), (.ref (n0 + a1)), (.ref (n0 + a1))])) rfl (by rw [hml]; rfl) (rest := [(.ref (n0 + a1))]) (lenOf pd_1 rfl) rfl (by show 2 * 0 + _ ≤ _; exact Nat.le_of_eq rfl) (hb hby at_7) (by show _ + 0 ≤ 16; omega) (by show _ + 0 ≤ 128; omega)
  obtain ⟨u4, hk3, hf⟩ := own_bind hf
  obtain ⟨⟨x5, D3⟩, hq3, hf⟩ := own_bind hf
  obtain ⟨_, rfl, hf⟩ := own_letE hf
  obtain ⟨_, rfl, hf⟩ := own_letE hf
  obtain ⟨T3, h3, L3, X3, e3, O3, N3, st3⟩ := callVW X2 hx hZ (y := (⟨"com/example/eidwerk/eidwerk/tlv/Tlv$Header", "totalLength", "()J"⟩ : MethodName)) hown (hw _ (List.mem_of_getElem? (i := 20) rfl)) (hw _ (List.mem_of_getElem? (i := 21) rfl)) (hw _ (List.mem_of_getElem? (i := 23) rfl)) (hw _ (List.mem_of_getElem? (i := 22) rfl)) (hw _ (List.mem_of_getElem? (i := 2) rfl)) (hw _ (List.mem_of_getElem? (i := 24) rfl)) (by decide) e2 O2 N2 hk3 rfl (as' := []) (ct4 hw hq3) (W := 0) (kc := 0) (ks := 0) rfl rfl (by decide) (by decide) (g := (mkF m 12 #[.val (.int i0), .val (.int i1), .val (.int i2), .val (.ref (n0 + a1)), .unset, .unset, .unset, .unset, .unset] [(.ref (n0 + a1))])) rfl (by rw [hml]; rfl) (rest := []) (lenOf pd_2 rfl) rfl (by show 2 * 0 + _ ≤ _; exact Nat.le_of_eq rfl) (hb hby at_12) (by show _ + 0 ≤ 16; omega) (by show _ + 0 ≤ 128; omega)
  refine Gl.on (B := T3.setTop (mkF m 25 #[.val (.int i0), .val (.int i1), .val (.int i2), .val (.ref (n0 + a1)), .val (.long x5), .second, .unset, .unset, .unset] [(.int (lcmpW (x5 - (i1.toInt64)) (i2.toInt64)))])) (fun t k => ?_) ?_
  · show Steps p.tables e below (T0.setTop (mkF m 0 #[.val (.int i0), .val (.int i1), .val (.int i2), .unset, .unset, .unset, .unset, .unset, .unset] [])) _
    refine st1 _ ?_
    show Steps p.tables e below (T1.setTop (mkF m 3 #[.val (.int i0), .val (.int i1), .val (.int i2), .unset, .unset, .unset, .unset, .unset, .unset] [(.ref (n0 + a1))])) _
    refine XS.dup X1.here hx rfl (hb hby at_3) rfl rfl ?_
    show Steps p.tables e below (T1.setTop (mkF m 4 #[.val (.int i0), .val (.int i1), .val (.int i2), .unset, .unset, .unset, .unset, .unset, .unset] [(.ref (n0 + a1)), (.ref (n0 + a1))])) _
    refine XS.iloadN X1.here hx rfl (hb hby at_4) rfl ?_
    show Steps p.tables e below (T1.setTop (mkF m 5 #[.val (.int i0), .val (.int i1), .val (.int i2), .unset, .unset, .unset, .unset, .unset, .unset] [(.int i0), (.ref (n0 + a1)), (.ref (n0 + a1))])) _
    refine XS.iloadN X1.here hx rfl (hb hby at_5) rfl ?_
    show Steps p.tables e below (T1.setTop (mkF m 6 #[.val (.int i0), .val (.int i1), .val (.int i2), .unset, .unset, .unset, .unset, .unset, .unset] [(.int i1), (.int i0), (.ref (n0 + a1)), (.ref (n0 + a1))])) _
    refine XS.iloadN X1.here hx rfl (hb hby at_6) rfl ?_
    show Steps p.tables e below (T1.setTop (mkF m 7 #[.val (.int i0), .val (.int i1), .val (.int i2), .unset, .unset, .unset, .unset, .unset, .unset] [(.int i2), (.int i1), (.int i0), (.ref (n0 + a1)), (.ref (n0 + a1))])) _
    refine st2 _ ?_
    show Steps p.tables e below (T2.setTop (mkF m 10 #[.val (.int i0), .val (.int i1), .val (.int i2), .unset, .unset, .unset, .unset, .unset, .unset] [(.ref (n0 + a1))])) _
    refine XS.astoreN X2.here hx rfl (hb hby at_10) rfl rfl (l' := #[.val (.int i0), .val (.int i1), .val (.int i2), .val (.ref (n0 + a1)), .unset, .unset, .unset, .unset, .unset]) rfl ?_
    show Steps p.tables e below (T2.setTop (mkF m 11 #[.val (.int i0), .val (.int i1), .val (.int i2), .val (.ref (n0 + a1)), .unset, .unset, .unset, .unset, .unset] [])) _
    refine XS.aloadN X2.here hx rfl (hb hby at_11) rfl rfl ?_
    show Steps p.tables e below (T2.setTop (mkF m 12 #[.val (.int i0), .val (.int i1), .val (.int i2), .val (.ref (n0 + a1)), .unset, .unset, .unset, .unset, .unset] [(.ref (n0 + a1))])) _
    refine st3 _ ?_
    show Steps p.tables e below (T3.setTop (mkF m 15 #[.val (.int i0), .val (.int i1), .val (.int i2), .val (.ref (n0 + a1)), .unset, .unset, .unset, .unset, .unset] [(.long x5)])) _
    refine XS.lstore X3.here hx rfl (hb hby at_15) rfl (l' := #[.val (.int i0), .val (.int i1), .val (.int i2), .val (.ref (n0 + a1)), .val (.long x5), .second, .unset, .unset, .unset]) rfl ?_
    show Steps p.tables e below (T3.setTop (mkF m 17 #[.val (.int i0), .val (.int i1), .val (.int i2), .val (.ref (n0 + a1)), .val (.long x5), .second, .unset, .unset, .unset] [])) _
    refine XS.lload X3.here hx rfl (hb hby at_17) rfl ?_
    show Steps p.tables e below (T3.setTop (mkF m 19 #[.val (.int i0), .val (.int i1), .val (.int i2), .val (.ref (n0 + a1)), .val (.long x5), .second, .unset, .unset, .unset] [(.long x5)])) _
    refine XS.iloadN X3.here hx rfl (hb hby at_19) rfl ?_
    show Steps p.tables e below (T3.setTop (mkF m 20 #[.val (.int i0), .val (.int i1), .val (.int i2), .val (.ref (n0 + a1)), .val (.long x5), .second, .unset, .unset, .unset] [(.int i1), (.long x5)])) _
    refine XS.i2l X3.here hx rfl (hb hby at_20) rfl ?_
    show Steps p.tables e below (T3.setTop (mkF m 21 #[.val (.int i0), .val (.int i1), .val (.int i2), .val (.ref (n0 + a1)), .val (.long x5), .second, .unset, .unset, .unset] [(.long (i1.toInt64)), (.long x5)])) _
    refine XS.lsub X3.here hx rfl (hb hby at_21) rfl ?_
    show Steps p.tables e below (T3.setTop (mkF m 22 #[.val (.int i0), .val (.int i1), .val (.int i2), .val (.ref (n0 + a1)), .val (.long x5), .second, .unset, .unset, .unset] [(.long (x5 - (i1.toInt64)))])) _
    refine XS.iloadN X3.here hx rfl (hb hby at_22) rfl ?_
    show Steps p.tables e below (T3.setTop (mkF m 23 #[.val (.int i0), .val (.int i1), .val (.int i2), .val (.ref (n0 + a1)), .val (.long x5), .second, .unset, .unset, .unset] [(.int i2), (.long (x5 - (i1.toInt64)))])) _
    refine XS.i2l X3.here hx rfl (hb hby at_23) rfl ?_
    show Steps p.tables e below (T3.setTop (mkF m 24 #[.val (.int i0), .val (.int i1), .val (.int i2), .val (.ref (n0 + a1)), .val (.long x5), .second, .unset, .unset, .unset] [(.long (i2.toInt64)), (.long (x5 - (i1.toInt64)))])) _
    refine XS.lcmp X3.here hx rfl (hb hby at_24) rfl ?_
    exact k
  by_cases hc6 : (x5 - (i1.toInt64)) = (i2.toInt64)
  · rw [if_pos hc6] at hf
    refine Gl.on (B := T3.setTop (mkF m 33 #[.val (.int i0), .val (.int i1), .val (.int i2), .val (.ref (n0 + a1)), .val (.long x5), .second, .unset, .unset, .unset] [(.int (1 : Int32))])) (fun t k => ?_) ?_
    · show Steps p.tables e below (T3.setTop (mkF m 25 #[.val (.int i0), .val (.int i1), .val (.int i2), .val (.ref (n0 + a1)), .val (.long x5), .second, .unset, .unset, .unset] [(.int (lcmpW (x5 - (i1.toInt64)) (i2.toInt64)))])) _
      refine XS.ifNo X3.here hx rfl (hb hby at_25) rfl ((if0 _ _).trans (teq ((lw_eq _ _).mpr hc6)).2) ?_
      show Steps p.tables e below (T3.setTop (mkF m 28 #[.val (.int i0), .val (.int i1), .val (.int i2), .val (.ref (n0 + a1)), .val (.long x5), .second, .unset, .unset, .unset] [])) _
      refine XS.iconst X3.here hx rfl (hb hby at_28) ?_
      show Steps p.tables e below (T3.setTop (mkF m 29 #[.val (.int i0), .val (.int i1), .val (.int i2), .val (.ref (n0 + a1)), .val (.long x5), .second, .unset, .unset, .unset] [(.int (1 : Int32))])) _
      refine XS.goto X3.here hx rfl (pc0 := 29) (pc' := 33) rfl (hb hby at_29) (by decide) (by decide) ?_
      exact k
    exact bt0_33 hw hC X3 e3 O3 N3 (by omega) (by omega) hf
  · rw [if_neg hc6] at hf
    refine Gl.on (B := T3.setTop (mkF m 33 #[.val (.int i0), .val (.int i1), .val (.int i2), .val (.ref (n0 + a1)), .val (.long x5), .second, .unset, .unset, .unset] [(.int (0 : Int32))])) (fun t k => ?_) ?_
    · show Steps p.tables e below (T3.setTop (mkF m 25 #[.val (.int i0), .val (.int i1), .val (.int i2), .val (.ref (n0 + a1)), .val (.long x5), .second, .unset, .unset, .unset] [(.int (lcmpW (x5 - (i1.toInt64)) (i2.toInt64)))])) _
      refine XS.ifYes X3.here hx rfl (pc0 := 25) (pc' := 32) rfl (hb hby at_25) rfl ((if0 _ _).trans (feq (mt (lw_eq _ _).mp hc6)).2) (by decide) (by decide) ?_
      show Steps p.tables e below (T3.setTop (mkF m 32 #[.val (.int i0), .val (.int i1), .val (.int i2), .val (.ref (n0 + a1)), .val (.long x5), .second, .unset, .unset, .unset] [])) _
      refine XS.iconst X3.here hx rfl (hb hby at_32) ?_
      exact k
    exact bt0_33 hw hC X3 e3 O3 N3 (by omega) (by omega) hf
theorem law_ok (i0 i1 i2 : Int32) : ∃ D', f0 [] i0 i1 i2 = some ((1 : Int32), D') := by
  refine ⟨[(0, [.int i0, .int i1, .int i2])], ?_⟩
  have a1 := i1.le_toInt; have a2 := i1.toInt_lt; have b1 := i2.le_toInt; have b2 := i2.toInt_lt
  have e0 : (i1.toInt64 + i2.toInt64).toInt = i1.toInt + i2.toInt := by rw [XT.add64 (by rw [c_i2l, c_i2l]; constructor <;> omega), c_i2l, c_i2l]
  have e1 : i1.toInt64 + i2.toInt64 - i1.toInt64 = i2.toInt64 := by
    apply Int64.toInt_inj.mp
    rw [XT.sub64 (by rw [e0, c_i2l]; constructor <;> omega), e0, c_i2l, c_i2l]; omega
  have e2 : (i1.toInt64 + i2.toInt64 < i1.toInt64) ↔ i2 < 0 := by
    rw [Int64.lt_iff_toInt_lt, e0, c_i2l, Int32.lt_iff_toInt_lt]
    have : (0 : Int32).toInt = 0 := by decide
    omega
  by_cases q : i2 < 0
  · simp [f2, f1, f4, f5, f6, f7, b0_96, b0_95, b0_65, b0_57, b0_44, b0_33, f0, own_let, pV, gI, gV, asI, ck, e1, e2, q]
  · simp [f2, f1, f4, f5, f6, f7, b0_96, b0_95, b0_65, b0_57, b0_44, b0_33, f0, own_let, pV, gI, gV, asI, ck, e1, e2, q]
set_option maxRecDepth 65536 in
set_option maxHeartbeats 40000000 in
theorem comes_1 {Post : Tables → Env → Array Value → State → Outcome → State → Prop} (hpost : ∀ tb e args s v u, (limb_1_1.after args s (.returned v) u = true ∧ limb_1_2.after args s (.returned v) u = true ∧ True) → FrameEnd s (.returned v) u (Jvm.fieldLocs frame_1_writes args s ++ Jvm.arrayLocs frame_1_arrays args s ++ Jvm.staticLocs frame_1_statics s) 16 128 → Post tb e args s (.returned v) u) :
    ArmFor flags0 classFile x code maxLocals ret World_1 tables_1 room_1 Calls_1 rest_1 Pre_1 Post := by
  intro l hfl _ _ p e ha hc hk s m args below hf hA hF happ hP
  obtain ⟨hcalls, hrest, hpre⟩ := hP
  obtain ⟨-, -, -, hnamed, -, -, -, hat⟩ := (Spec.applies_iff hf).mp happ
  obtain ⟨hg, hn⟩ := and_e (Cond.before_iff.mp (show (Jvm.Cond.and given_1 narrow_1).before args s = true from hpre))
  obtain ⟨g0, hg⟩ := and_e hg
  obtain ⟨gg0, hg⟩ := and_e hg
  obtain ⟨gg1, hg⟩ := and_e hg
  have gg2 := hg
  obtain ⟨w0, w1, w2, rfl⟩ : ∃ w0 w1 w2 : Value, args = #[w0, w1, w2] := by
    have hs : args.size = 3 := by simpa [Cond.value, given_1] using g0
    obtain ⟨L⟩ := args
    match L, hs with
    | [w0, w1, w2], _ => exact ⟨w0, w1, w2, rfl⟩
  have hw := fun d (hd : d ∈ tables_1) => atoms_spec (ws := Jvm.Cond.code x code maxLocals ret :: tables_1) hat d (List.mem_cons_of_mem _ hd)
  obtain ⟨i0, ei0⟩ := is_v gg0
  obtain rfl : w0 = (.int i0) := Option.some.inj ei0
  obtain ⟨i1, ei1⟩ := is_v gg1
  obtain rfl : w1 = (.int i1) := Option.some.inj ei1
  obtain ⟨i2, ei2⟩ := is_v gg2
  obtain rfl : w2 = (.int i2) := Option.some.inj ei2
  obtain ⟨D', hlaw⟩ := law_ok i0 i1 i2
  obtain ⟨n, o, h1, h2, h3, _, L, rfl, ⟨rfl, N, -⟩, hq⟩ := ct0 (l := l) hw hlaw s.heap tables_1 (own_ow0 s.heap) p e ha hc hk s m _ below hf ((Spec.applies_iff_loose hf).mp happ).1 ⟨rfl, State.Warmed39.refl s, rfl⟩ trivial
  exact ⟨n, _, h1, h2, h3, hpost _ _ _ _ _ _ ⟨Cond.after_iff.mpr rfl, Cond.after_iff.mpr (eq_i res_at (Term.int_eval (1)) rfl), trivial⟩ ⟨hq.1, hq.2.1, (hq.2.2.sift fun y hy => Or.inr (N y hy)).mono (by decide) (by decide)⟩⟩
theorem main_1_1 : Claimed_1_1 := comes_1 fun _ _ _ _ _ _ h hF => ⟨h.1, hF⟩
theorem main_1_2 : Claimed_1_2 := comes_1 fun _ _ _ _ _ _ h hF => ⟨h.2.1, hF⟩
end Jvm.Pilot.@@N@@
namespace Jvm.Pilot.@@N@@
open Jvm Jvm.ClassFile Sem Op Lib Jvm.Free Jvm.Stand Jvm.Pilot.@@N@@.Jvm.D
/-! MADE BY PROGRAM (witnessworld.py) out of the Statement's table words and the real class files: 10 classes; the members and pool entries that the words name. The judged class is class 1, her method 1. -/
namespace start1
open Jvm.ClassFile
def u (s : String) : CpInfo := .utf8 (stringToUtf16 s)
/-- a pool by its gaps: so many unusable entries, then the entry; so many at the end -/
def gap : Nat → List CpInfo → List CpInfo
  | 0, r => r
  | n + 1, r => .unusable :: gap n r
def poolList (es : List (Nat × CpInfo)) (last : Nat) : List CpInfo := es.foldr (fun e r => gap e.1 (e.2 :: r)) (gap last [])
def pool (es : List (Nat × CpInfo)) (last : Nat) : Array CpInfo := ⟨poolList es last⟩
def fileOf (pool : Array CpInfo) (this : Nat) (attrs : Array Attribute := #[]) (ms : Array MethodInfo := #[]) (fl : Nat := 33) (sup : Nat := 0) (ifs : Array Nat := #[]) (fds : Array FieldInfo := #[]) : ClassFile where
  minorVersion := 0
  majorVersion := 65
  constantPool := pool
  accessFlags := fl
  thisClass := this
  superClass := sup
  interfaces := ifs
  fields := fds
  methods := ms
  attributes := attrs
def plain (name : String) (sup : Option ClassId) : Class where
  name := name
  kind := .ordinary
  loader := none
  accessFlags := 33
  super := sup
  interfaces := #[]
  cf := none
  fields := #[]
  methods := #[]
  instanceTypes := #[]
  staticTypes := #[]
  resolved := #[]
  callSites := []
  init := .initialized
  statics := none
  mirror := none

def pool0 : Array CpInfo := pool [(5, u "<init>"), (0, u "()V"), (1, .class_ 10), (1, u "java/lang/Object")] 113

def k0c0 : Code := { maxStack := 0, maxLocals := 1, code := object_method_1_code, exceptionTable := #[], attributes := #[] }
def k0m0 : Method := { name := "<init>", desc := "()V", sig := { parameters := [], returnType := none }, accessFlags := 1, code := some k0c0 }
/-- java/lang/Object -/
def k0 : Class := { plain "java/lang/Object" none with
  accessFlags := 33
  interfaces := #[]
  cf := some (fileOf pool0 8 #[] #[{ accessFlags := 1, nameIndex := 5, descriptorIndex := 6, attributes := #[] }] 33 0 #[] #[])
  fields := #[]
  methods := #[k0m0]
  instanceTypes := #[]
  staticTypes := #[]
  resolved := Array.replicate 124 none
  statics := none }

def pool1 : Array CpInfo := pool [(2, .class_ 4), (1, u "java/lang/Object"), (0, u "<init>"), (0, u "()V"), (0, .class_ 8), (0, u "com/example/eidwerk/eidwerk/tlv/Tlv$Header"), (0, .methodref 7 10), (0, .nameAndType 5 11), (0, u "(III)V"), (0, .methodref 7 13), (0, .nameAndType 14 15), (0, u "totalLength"), (0, u "()J"), (0, .methodref 7 17), (0, .nameAndType 18 19), (0, u "tag"), (0, u "()I"), (0, .methodref 7 21), (0, .nameAndType 22 19), (0, u "headerLength"), (0, .methodref 7 24), (0, .nameAndType 25 19), (0, u "valueLength"), (0, .class_ 27), (0, u "com/example/eidwerk/eidwerk/tlv/HeaderTotalLengthPinLaw"), (2, u "law"), (0, u "(III)Z")] 7

def k1m0 : Method := { name := "<init>", desc := "()V", sig := { parameters := [], returnType := none }, accessFlags := 1, code := none }
def k1c1 : Code := { maxStack := 5, maxLocals := 9, code := code, exceptionTable := #[], attributes := #[] }
def k1m1 : Method := { name := "law", desc := "(III)Z", sig := { parameters := [.int, .int, .int], returnType := some .boolean }, accessFlags := 9, code := some k1c1 }
/-- com/example/eidwerk/eidwerk/tlv/HeaderTotalLengthPinLaw -/
def k1 : Class := { plain "com/example/eidwerk/eidwerk/tlv/HeaderTotalLengthPinLaw" (some 0) with
  accessFlags := 49
  interfaces := #[]
  cf := some (fileOf pool1 26 #[] #[{ accessFlags := 1, nameIndex := 5, descriptorIndex := 6, attributes := #[] }, { accessFlags := 9, nameIndex := 30, descriptorIndex := 31, attributes := #[] }] 49 2 #[] #[])
  fields := #[]
  methods := #[k1m0, k1m1]
  instanceTypes := #[]
  staticTypes := #[]
  resolved := Array.replicate 39 none
  statics := none }

def pool2 : Array CpInfo := pool [(1, .methodref 2 3), (0, .class_ 4), (0, .nameAndType 5 6), (0, u "java/lang/Object"), (0, u "<init>"), (0, u "()V"), (0, .class_ 8), (0, u "java/lang/Record")] 13

def k2c0 : Code := { maxStack := 1, maxLocals := 1, code := jdk_30_method_1_code, exceptionTable := #[], attributes := #[] }
def k2m0 : Method := { name := "<init>", desc := "()V", sig := { parameters := [], returnType := none }, accessFlags := 4, code := some k2c0 }
/-- java/lang/Record -/
def k2 : Class := { plain "java/lang/Record" (some 0) with
  accessFlags := 1057
  interfaces := #[]
  cf := some (fileOf pool2 7 #[] #[{ accessFlags := 4, nameIndex := 5, descriptorIndex := 6, attributes := #[] }] 1057 2 #[] #[])
  fields := #[]
  methods := #[k2m0]
  instanceTypes := #[]
  staticTypes := #[]
  resolved := Array.replicate 22 none
  statics := none }

def pool3 : Array CpInfo := pool [(1, .methodref 2 3), (0, .class_ 4), (0, .nameAndType 5 6), (0, u "java/lang/Record"), (0, u "<init>"), (0, u "()V"), (0, .fieldref 8 9), (0, .class_ 10), (0, .nameAndType 11 12), (0, u "com/example/eidwerk/eidwerk/tlv/Tlv$Header"), (0, u "tag"), (0, u "I"), (0, .fieldref 8 14), (0, .nameAndType 15 12), (0, u "headerLength"), (0, .fieldref 8 17), (0, .nameAndType 18 12), (0, u "valueLength"), (12, u "(III)V"), (3, u "totalLength"), (0, u "()J"), (1, u "()I"), (4, .class_ 44), (0, u "com/example/eidwerk/eidwerk/tlv/Tlv")] 21

def k3c0 : Code := { maxStack := 2, maxLocals := 4, code := prog_66_method_1_code, exceptionTable := #[], attributes := #[] }
def k3m0 : Method := { name := "<init>", desc := "(III)V", sig := { parameters := [.int, .int, .int], returnType := none }, accessFlags := 1, code := some k3c0 }
def k3c1 : Code := { maxStack := 4, maxLocals := 1, code := prog_66_method_2_code, exceptionTable := #[], attributes := #[] }
def k3m1 : Method := { name := "totalLength", desc := "()J", sig := { parameters := [], returnType := some .long }, accessFlags := 1, code := some k3c1 }
def k3c2 : Code := { maxStack := 1, maxLocals := 1, code := prog_66_method_6_code, exceptionTable := #[], attributes := #[] }
def k3m2 : Method := { name := "tag", desc := "()I", sig := { parameters := [], returnType := some .int }, accessFlags := 1, code := some k3c2 }
def k3c3 : Code := { maxStack := 1, maxLocals := 1, code := prog_66_method_7_code, exceptionTable := #[], attributes := #[] }
def k3m3 : Method := { name := "headerLength", desc := "()I", sig := { parameters := [], returnType := some .int }, accessFlags := 1, code := some k3c3 }
def k3c4 : Code := { maxStack := 1, maxLocals := 1, code := prog_66_method_8_code, exceptionTable := #[], attributes := #[] }
def k3m4 : Method := { name := "valueLength", desc := "()I", sig := { parameters := [], returnType := some .int }, accessFlags := 1, code := some k3c4 }
/-- com/example/eidwerk/eidwerk/tlv/Tlv$Header -/
def k3 : Class := { plain "com/example/eidwerk/eidwerk/tlv/Tlv$Header" (some 2) with
  accessFlags := 49
  interfaces := #[]
  cf := some (fileOf pool3 8 #[.nestHost 43] #[{ accessFlags := 1, nameIndex := 5, descriptorIndex := 31, attributes := #[] }, { accessFlags := 1, nameIndex := 35, descriptorIndex := 36, attributes := #[] }, { accessFlags := 1, nameIndex := 11, descriptorIndex := 38, attributes := #[] }, { accessFlags := 1, nameIndex := 15, descriptorIndex := 38, attributes := #[] }, { accessFlags := 1, nameIndex := 18, descriptorIndex := 38, attributes := #[] }] 49 2 #[] #[{ accessFlags := 18, nameIndex := 11, descriptorIndex := 12, attributes := #[] }, { accessFlags := 18, nameIndex := 15, descriptorIndex := 12, attributes := #[] }, { accessFlags := 18, nameIndex := 18, descriptorIndex := 12, attributes := #[] }])
  fields := #[{ name := "tag", type := .int, accessFlags := 18, slot := 0, constantValue := 0 }, { name := "headerLength", type := .int, accessFlags := 18, slot := 1, constantValue := 0 }, { name := "valueLength", type := .int, accessFlags := 18, slot := 2, constantValue := 0 }]
  methods := #[k3m0, k3m1, k3m2, k3m3, k3m4]
  instanceTypes := #[.int, .int, .int]
  staticTypes := #[]
  resolved := Array.replicate 66 none
  statics := none }

def pool4 : Array CpInfo := pool [(1, u "java/lang/Cloneable"), (0, .class_ 1), (0, u "java/lang/Object"), (0, .class_ 3)] 3

/-- java/lang/Cloneable -/
def k4 : Class := { plain "java/lang/Cloneable" (some 0) with
  accessFlags := 1537
  interfaces := #[]
  cf := some (fileOf pool4 2 #[] #[] 1537 4 #[] #[])
  fields := #[]
  methods := #[]
  instanceTypes := #[]
  staticTypes := #[]
  resolved := Array.replicate 8 none
  statics := none }

def pool5 : Array CpInfo := pool [(1, u "java/io/Serializable"), (0, .class_ 1), (0, u "java/lang/Object"), (0, .class_ 3)] 3

/-- java/io/Serializable -/
def k5 : Class := { plain "java/io/Serializable" (some 0) with
  accessFlags := 1537
  interfaces := #[]
  cf := some (fileOf pool5 2 #[] #[] 1537 4 #[] #[])
  fields := #[]
  methods := #[]
  instanceTypes := #[]
  staticTypes := #[]
  resolved := Array.replicate 8 none
  statics := none }

/-- the primitive byte -/
def k6 : Class := { plain "byte" none with kind := .primitive 'B', accessFlags := 0x411 }
/-- [B -/
def k7 : Class := { plain "[B" (some 0) with kind := .array 6 .byte, interfaces := #[4, 5], accessFlags := 1041 }

/-- the primitive int -/
def k8 : Class := { plain "int" none with kind := .primitive 'I', accessFlags := 0x411 }
/-- [I -/
def k9 : Class := { plain "[I" (some 0) with kind := .array 8 .int, interfaces := #[4, 5], accessFlags := 1041 }

def heap : Heap := #[]
def classes : Array Class := #[k0, k1, k2, k3, k4, k5, k6, k7, k8, k9]
def interned : List (Array UInt16 × Addr) := []
def slotsUsed : Nat := 0
def theMethod : MethodId := ⟨1, 1⟩
def args0 : Array Value := #[.int 5, .int 7, .int 9]
def aboutOver (below : List Frame) : State where
  vm := { classes := classes, interned := interned.toArray }
  heap := heap
  slotsUsed := slotsUsed
  threads := #[{ frames := .invoking theMethod args0 :: below }]
def below0 : List Frame := [.native { method := ⟨0, 0⟩, args := #[] }]
def about1 : State := aboutOver below0
def p0 : Program := .bare "" "" ""
def e0 : Env := launch0.env 0 0 0
theorem w_frames : about1.frames = Frame.invoking theMethod args0 :: below0 := rfl
set_option maxRecDepth 65536 in
theorem w_args : argsFit about1.vm theMethod args0 = true := by decide +kernel
set_option maxRecDepth 65536 in
theorem w_heap : heapFits about1 = true := by decide +kernel
set_option maxRecDepth 65536 in
theorem w_runnable : about1.curStatus? = some .runnable := by decide +kernel
set_option maxRecDepth 65536 in
theorem w_alone : about1.alone = true := by decide +kernel
set_option maxRecDepth 65536 in
theorem w_named : about1.methodNamed? x = some theMethod := by decide +kernel
set_option maxRecDepth 65536 in
theorem w_hears : about1.hears theMethod below0 = true := by decide +kernel
set_option maxRecDepth 65536 in
theorem w_ripe : about1.ripe theMethod args0 below0 = true := by decide +kernel
theorem w_running : about1.status = .running := rfl
set_option maxRecDepth 65536 in
theorem w_room : about1.hasRoom e0.platform room_1 = true :=
  launch0.hasRoom_least _ room_1 (by decide +kernel) (by decide +kernel) (by decide +kernel) (by decide +kernel) (by decide +kernel) (by decide +kernel)
theorem allAtoms_all (ts : List Jvm.Cond) (a : Array Jvm.Value) (st : Jvm.State) : (allAtoms ts).before a st = ts.all (fun c => c.before a st) := by
  induction ts with
  | nil => rfl
  | cons c t ih =>
    show (Jvm.Cond.and c (allAtoms t)).before a st = _
    rw [Jvm.Cond.before_and, ih, List.all_cons]
def words1 : List Jvm.Cond := Jvm.Cond.code x code maxLocals ret :: tables_1
/-- a 'code' word, met by the world's own term for the bytes: nothing is compared byte by byte -/
theorem code_word {y : MethodName} {bytes : ByteArray} {mx : Nat} {rt : Option FieldType} {a : Array Value} {s : State} {m : MethodId} {meth : Method} {c : Code} (h1 : s.methodNamed? y = some m) (h2 : s.vm.method? m = some meth) (h3 : meth.code = some c) (h4 : c.code = bytes)
    (h5 : (c.maxLocals == mx && c.exceptionTable.isEmpty && decide (c.maxStack ≤ mostOperands) && decide (meth.sig.returnType = rt) && !meth.locks && decide (parseMethodDescriptor y.desc = some meth.sig)) = true) : (Jvm.Cond.code y bytes mx rt).before a s = true := by
  simp only [Bool.and_eq_true, beq_iff_eq, Bool.not_eq_true', decide_eq_true_eq] at h5
  obtain ⟨⟨⟨⟨⟨g1, g2⟩, g3⟩, g4⟩, g5⟩, g6⟩ := h5
  simp [Cond.before, Cond.holds, Cond.value, h1, h2, h3, h4, g1, g2, g3, g4, g5, g6]
def isCode : Jvm.Cond → Bool
  | .code _ _ _ _ => true
  | _ => false
theorem all_split {L : List Jvm.Cond} {P : Jvm.Cond → Bool} (h1 : L.all (fun c => isCode c || P c) = true) (h2 : ∀ c ∈ L.filter isCode, P c = true) : L.all P = true := by
  refine List.all_eq_true.mpr fun c hc => ?_
  have h := List.all_eq_true.mp h1 c hc
  rcases Bool.eq_false_or_eq_true (isCode c) with hi | hi
  · exact h2 c (List.mem_filter.mpr ⟨hc, hi⟩)
  · simpa [hi] using h
set_option maxRecDepth 65536 in
theorem w_c0 : (Jvm.Cond.code x code maxLocals ret).before args0 about1 = true := code_word (m := ⟨1, 1⟩) (meth := k1m1) (c := k1c1) (by decide +kernel) rfl rfl rfl (by decide +kernel)
set_option maxRecDepth 65536 in
theorem w_c1 : (Jvm.Cond.code ({ cls := "com/example/eidwerk/eidwerk/tlv/Tlv$Header", name := "<init>", desc := "(III)V" } : Jvm.MethodName) prog_66_method_1_code (4 : Nat) (Option.none : Option Jvm.ClassFile.FieldType)).before args0 about1 = true := code_word (m := ⟨3, 0⟩) (meth := k3m0) (c := k3c0) (by decide +kernel) rfl rfl rfl (by decide +kernel)
set_option maxRecDepth 65536 in
theorem w_c2 : (Jvm.Cond.code ({ cls := "java/lang/Record", name := "<init>", desc := "()V" } : Jvm.MethodName) jdk_30_method_1_code (1 : Nat) (Option.none : Option Jvm.ClassFile.FieldType)).before args0 about1 = true := code_word (m := ⟨2, 0⟩) (meth := k2m0) (c := k2c0) (by decide +kernel) rfl rfl rfl (by decide +kernel)
set_option maxRecDepth 65536 in
theorem w_c3 : (Jvm.Cond.code ({ cls := "java/lang/Object", name := "<init>", desc := "()V" } : Jvm.MethodName) object_method_1_code (1 : Nat) (Option.none : Option Jvm.ClassFile.FieldType)).before args0 about1 = true := code_word (m := ⟨0, 0⟩) (meth := k0m0) (c := k0c0) (by decide +kernel) rfl rfl rfl (by decide +kernel)
set_option maxRecDepth 65536 in
theorem w_c4 : (Jvm.Cond.code ({ cls := "com/example/eidwerk/eidwerk/tlv/Tlv$Header", name := "totalLength", desc := "()J" } : Jvm.MethodName) prog_66_method_2_code (1 : Nat) (Option.some Jvm.ClassFile.FieldType.long)).before args0 about1 = true := code_word (m := ⟨3, 1⟩) (meth := k3m1) (c := k3c1) (by decide +kernel) rfl rfl rfl (by decide +kernel)
set_option maxRecDepth 65536 in
theorem w_c5 : (Jvm.Cond.code ({ cls := "com/example/eidwerk/eidwerk/tlv/Tlv$Header", name := "tag", desc := "()I" } : Jvm.MethodName) prog_66_method_6_code (1 : Nat) (Option.some Jvm.ClassFile.FieldType.int)).before args0 about1 = true := code_word (m := ⟨3, 2⟩) (meth := k3m2) (c := k3c2) (by decide +kernel) rfl rfl rfl (by decide +kernel)
set_option maxRecDepth 65536 in
theorem w_c6 : (Jvm.Cond.code ({ cls := "com/example/eidwerk/eidwerk/tlv/Tlv$Header", name := "headerLength", desc := "()I" } : Jvm.MethodName) prog_66_method_7_code (1 : Nat) (Option.some Jvm.ClassFile.FieldType.int)).before args0 about1 = true := code_word (m := ⟨3, 3⟩) (meth := k3m3) (c := k3c3) (by decide +kernel) rfl rfl rfl (by decide +kernel)
set_option maxRecDepth 65536 in
theorem w_c7 : (Jvm.Cond.code ({ cls := "com/example/eidwerk/eidwerk/tlv/Tlv$Header", name := "valueLength", desc := "()I" } : Jvm.MethodName) prog_66_method_8_code (1 : Nat) (Option.some Jvm.ClassFile.FieldType.int)).before args0 about1 = true := code_word (m := ⟨3, 4⟩) (meth := k3m4) (c := k3c4) (by decide +kernel) rfl rfl rfl (by decide +kernel)
def codes1 : List Jvm.Cond := [Jvm.Cond.code x code maxLocals ret, Jvm.Cond.code ({ cls := "com/example/eidwerk/eidwerk/tlv/Tlv$Header", name := "<init>", desc := "(III)V" } : Jvm.MethodName) prog_66_method_1_code (4 : Nat) (Option.none : Option Jvm.ClassFile.FieldType), Jvm.Cond.code ({ cls := "java/lang/Record", name := "<init>", desc := "()V" } : Jvm.MethodName) jdk_30_method_1_code (1 : Nat) (Option.none : Option Jvm.ClassFile.FieldType), Jvm.Cond.code ({ cls := "java/lang/Object", name := "<init>", desc := "()V" } : Jvm.MethodName) object_method_1_code (1 : Nat) (Option.none : Option Jvm.ClassFile.FieldType), Jvm.Cond.code ({ cls := "com/example/eidwerk/eidwerk/tlv/Tlv$Header", name := "totalLength", desc := "()J" } : Jvm.MethodName) prog_66_method_2_code (1 : Nat) (Option.some Jvm.ClassFile.FieldType.long), Jvm.Cond.code ({ cls := "com/example/eidwerk/eidwerk/tlv/Tlv$Header", name := "tag", desc := "()I" } : Jvm.MethodName) prog_66_method_6_code (1 : Nat) (Option.some Jvm.ClassFile.FieldType.int), Jvm.Cond.code ({ cls := "com/example/eidwerk/eidwerk/tlv/Tlv$Header", name := "headerLength", desc := "()I" } : Jvm.MethodName) prog_66_method_7_code (1 : Nat) (Option.some Jvm.ClassFile.FieldType.int), Jvm.Cond.code ({ cls := "com/example/eidwerk/eidwerk/tlv/Tlv$Header", name := "valueLength", desc := "()I" } : Jvm.MethodName) prog_66_method_8_code (1 : Nat) (Option.some Jvm.ClassFile.FieldType.int)]
set_option maxRecDepth 65536 in
theorem codes_eq : words1.filter isCode = codes1 := rfl
theorem w_codes : ∀ c ∈ words1.filter isCode, c.before args0 about1 = true := by
  rw [codes_eq]
  intro c hc
  simp only [codes1, List.mem_cons, List.not_mem_nil, or_false] at hc
  rcases hc with rfl | rfl | rfl | rfl | rfl | rfl | rfl | rfl
  · exact w_c0
  · exact w_c1
  · exact w_c2
  · exact w_c3
  · exact w_c4
  · exact w_c5
  · exact w_c6
  · exact w_c7
set_option maxRecDepth 65536 in
theorem w_t1 : (words1.take 24).all (fun c => isCode c || c.before args0 about1) = true := by decide +kernel
set_option maxRecDepth 65536 in
theorem w_t2 : (words1.drop 24).all (fun c => isCode c || c.before args0 about1) = true := by decide +kernel
theorem w_tables : (allAtoms (Jvm.Cond.code x code maxLocals ret :: tables_1)).before args0 about1 = true := by
  rw [allAtoms_all]
  show words1.all (fun c => c.before args0 about1) = true
  refine all_split ?_ w_codes
  rw [← List.take_append_drop 24 words1, List.all_append, w_t1, w_t2]
  rfl
set_option maxRecDepth 65536 in
theorem w_case : (Jvm.Cond.and given_1 narrow_1).before args0 about1 = true := by decide +kernel
theorem w_applies : (headSpec (Jvm.Cond.code x code maxLocals ret :: tables_1) room_1).applies x e0.platform about1 = true :=
  (Spec.applies_iff w_frames).mpr ⟨w_running, w_runnable, w_alone, w_named, w_hears, w_ripe, w_room, w_tables⟩
theorem atStart : AtStart classFile x code maxLocals ret World_1 tables_1 room_1 Calls_1 rest_1 Pre_1 launch0 p0 e0 about1 theMethod args0 below0 :=
  ⟨lists_1, trivial, launch0.admits_env _ _ _, launch0.least_env, fairChoices_fair.cas, fairChoices_fair.clock, w_frames, w_args, w_heap, w_applies, trivial, trivial, w_case⟩
end start1
theorem witness_1 : WitnessClaimed_1 := ⟨start1.p0, start1.e0, start1.about1, start1.theMethod, start1.args0, start1.below0, start1.atStart⟩
end Jvm.Pilot.@@N@@
