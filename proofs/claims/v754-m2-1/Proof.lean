import JvmDerived
import JvmDerived.Pilot.@@N@@Statement
import JvmDerived.Pilot.@@N@@Code
set_option linter.unusedVariables false
set_option linter.unusedSimpArgs false

namespace Jvm.Pilot.@@N@@
open Jvm Jvm.ClassFile Sem Op Lib Jvm.Free Jvm.Stand Jvm.LawKit Jvm.RoadKit Bundle Jvm.Pilot.@@N@@.Jvm.D
/-! 1. the goal of a walk, and its steps -/
section OwnGoal
variable {p : Program} {l : Launch} {e : Env} {R : Room} {s : State} {m : MethodId} {args : Array Value} {below : List Frame} {meth : Method} {c : Code} {T : State} {locs : List Loc} {cells slots : Nat}
/-- from the state S the body returns, P holds of what it leaves, and the frame is kept -/
def Gl (p : Program) (e : Env) (below : List Frame) (s : State) (kc ks : Nat) (P : Option Value → Heap → List Loc → Prop) (S : State) : Prop :=
  ∃ t o, Steps p.tables e below S t ∧ t.status = .running ∧ Ended t below o ∧ ∃ v L, o = .returned v ∧ P v t.heap L ∧ FrameEnd s o t L kc ks
variable {kc ks : Nat} {P : Option Value → Heap → List Loc → Prop}
theorem Gl.on {A B : State} (h : ∀ t, Steps p.tables e below B t → Steps p.tables e below A t) (k : Gl p e below s kc ks P B) : Gl p e below s kc ks P A := by
  obtain ⟨t, o, h1, h2⟩ := k
  exact ⟨t, o, h t h1, h2⟩
theorem own_to {tb : Tables} {A B t : State} (q : A = B) (k : Steps tb e below B t) : Steps tb e below A t := q ▸ k
theorem Gl.out (X : Stand p l e R s m args below meth c T locs cells slots) (hx : p.tables.exec = Jvm.exec) (hlk : meth.locks = false) {pc : Nat} {Ls : Array Slot} {w : Value} {t : FieldType} {i : Instr} {rest : List Value} (hret : meth.sig.returnType = some t) (hn : narrow t w = w)
    (hi : (i = .ireturn ∧ (t = .int ∨ t = .boolean ∨ t = .byte ∨ t = .char ∨ t = .short) ∧ ∃ z, w = .int z) ∨ (i = .lreturn ∧ t = .long ∧ ∃ z, w = .long z) ∨ (i = .dreturn ∧ t = .double ∧ ∃ z, w = .double z) ∨ (i = .freturn ∧ t = .float ∧ ∃ z, w = .float z) ∨ (i = .areturn ∧ t.isReference = true ∧ w.isRef = true))
    (hd : decode c.code pc = .ok (i, 1)) (hP : P (some w) T.heap locs) (hc : cells ≤ kc) (hs : slots ≤ ks) : Gl p e below s kc ks P (T.setTop (mkF m pc Ls (w :: rest))) := by
  obtain ⟨fs, hr, hrun, hended, hW, hsame⟩ := X.leave (v := some w) (fun h => by rw [hret] at h; cases h) hlk
  exact ⟨_, _, retOut X hx hret hn hi hd hr, hrun, hended, _, _, rfl, hP, ⟨_, rfl⟩, hW, hsame.mono hc hs⟩
theorem Gl.outI (X : Stand p l e R s m args below meth c T locs cells slots) (hx : p.tables.exec = Jvm.exec) (hlk : meth.locks = false) {pc : Nat} {Ls : Array Slot} {z : Int32} {rest : List Value} (hret : meth.sig.returnType = some .int)
    (hd : decode c.code pc = .ok (.ireturn, 1)) (hP : P (some (.int z)) T.heap locs) (hc : cells ≤ kc) (hs : slots ≤ ks) : Gl p e below s kc ks P (T.setTop (mkF m pc Ls (.int z :: rest))) :=
  Gl.out X hx hlk hret rfl (Or.inl ⟨rfl, Or.inl rfl, z, rfl⟩) hd hP hc hs
theorem Gl.outJ (X : Stand p l e R s m args below meth c T locs cells slots) (hx : p.tables.exec = Jvm.exec) (hlk : meth.locks = false) {pc : Nat} {Ls : Array Slot} {z : Int64} {rest : List Value} (hret : meth.sig.returnType = some .long)
    (hd : decode c.code pc = .ok (.lreturn, 1)) (hP : P (some (.long z)) T.heap locs) (hc : cells ≤ kc) (hs : slots ≤ ks) : Gl p e below s kc ks P (T.setTop (mkF m pc Ls (.long z :: rest))) :=
  Gl.out X hx hlk hret rfl (Or.inr (Or.inl ⟨rfl, rfl, z, rfl⟩)) hd hP hc hs
theorem Gl.outR (X : Stand p l e R s m args below meth c T locs cells slots) (hx : p.tables.exec = Jvm.exec) (hlk : meth.locks = false) {pc : Nat} {Ls : Array Slot} {a : Addr} {t : FieldType} {rest : List Value} (hret : meth.sig.returnType = some t) (ht : t.isReference = true)
    (hd : decode c.code pc = .ok (.areturn, 1)) (hP : P (some (.ref a)) T.heap locs) (hc : cells ≤ kc) (hs : slots ≤ ks) : Gl p e below s kc ks P (T.setTop (mkF m pc Ls (.ref a :: rest))) :=
  Gl.out X hx hlk hret (by cases t <;> first | rfl | cases ht) (Or.inr (Or.inr (Or.inr (Or.inr ⟨rfl, ht, rfl⟩)))) hd hP hc hs
theorem Gl.outN (X : Stand p l e R s m args below meth c T locs cells slots) (hx : p.tables.exec = Jvm.exec) (hlk : meth.locks = false) {pc : Nat} {Ls : Array Slot} {z : Int32} {t : FieldType} {rest : List Value} (hret : meth.sig.returnType = some t) (ht : t = .boolean ∨ t = .byte ∨ t = .char ∨ t = .short)
    (hd : decode c.code pc = .ok (.ireturn, 1)) (hP : P (some (.int (nar t z))) T.heap locs) (hc : cells ≤ kc) (hs : slots ≤ ks) : Gl p e below s kc ks P (T.setTop (mkF m pc Ls (.int z :: rest))) := by
  obtain ⟨fs, hr, hrun, hended, hW, hsame⟩ := X.leave (v := some (.int (nar t z))) (fun h => by rw [hret] at h; cases h) hlk
  exact ⟨_, _, retN X hx hret ht hd hr, hrun, hended, _, _, rfl, hP, ⟨_, rfl⟩, hW, hsame.mono hc hs⟩
theorem Gl.outV (X : Stand p l e R s m args below meth c T locs cells slots) (hx : p.tables.exec = Jvm.exec) (hlk : meth.locks = false) {pc : Nat} {Ls : Array Slot} (hret : meth.sig.returnType = none)
    (hd : decode c.code pc = .ok (.return_, 1)) (hP : P none T.heap locs) (hc : cells ≤ kc) (hs : slots ≤ ks) : Gl p e below s kc ks P (T.setTop (mkF m pc Ls [])) := by
  obtain ⟨fs, hr, hrun, hended, hW, hsame⟩ := X.leave (v := none) (fun _ => rfl) hlk
  exact ⟨_, _, X.returnOut hx hret hd hr, hrun, hended, _, _, rfl, hP, ⟨_, rfl⟩, hW, hsame.mono hc hs⟩
end OwnGoal
/-- two slots: both empty, or a long -/
def Two (a b : Slot) : Prop := (a = .unset ∧ b = .unset) ∨ ∃ z : Int64, a = .val (.long z) ∧ b = .second
theorem own_inj {α β : Type} {a b : α} {c d : β} (h : some (a, c) = some (b, d)) : a = b ∧ c = d := by cases h; exact ⟨rfl, rfl⟩
theorem own_inj1 {α : Type} {a b : α} (h : some a = some b) : a = b := by cases h; rfl
def own_let {α β : Type} (a : α) (f : α → β) : β := f a
theorem own_letE {α β : Type} {a : α} {f : α → β} {b : β} (h : own_let a f = b) : ∃ x, a = x ∧ f x = b := ⟨a, rfl, h⟩
theorem own_bind {α β : Type} {o : Option α} {f : α → Option β} {b : β} (h : o.bind f = some b) : ∃ x, o = some x ∧ f x = some b := by
  cases o with
  | none => cases h
  | some x => exact ⟨x, rfl, h⟩
/-! 2. what the law has made: a list of objects, each with its kind and its values; a reference is a place in that list -/
abbrev Hp := List (Nat × List Value)
abbrev Kt := Nat → FieldType × List (String × String)
def sh (n0 : Nat) : Value → Value
  | .ref k => .ref (n0 + k)
  | v => v
def gV (D : Hp) (a t i : Nat) : Option Value := (D[a]?).bind fun ob => if ob.1 = t then ob.2[i]? else none
def asI : Value → Option Int32
  | .int x => some x
  | _ => none
def asJ : Value → Option Int64
  | .long x => some x
  | _ => none
def asR : Value → Option Nat
  | .ref x => some x
  | _ => none
def gI (D : Hp) (a t i : Nat) : Option Int32 := (gV D a t i).bind asI
def gJ (D : Hp) (a t i : Nat) : Option Int64 := (gV D a t i).bind asJ
def gR (D : Hp) (a t i : Nat) : Option Nat := (gV D a t i).bind asR
def ck (D : Hp) (a t : Nat) : Option Nat := (D[a]?).bind fun ob => if ob.1 = t then some t else none
def pV (D : Hp) (a t i : Nat) (v : Value) : Option Hp := (D[a]?).bind fun ob => if ob.1 = t then (if i < ob.2.length then some (D.set a (t, ob.2.set i v)) else none) else none
def rV (D : Hp) (a t : Nat) (j : Int32) : Option Value := (D[a]?).bind fun ob => if ob.1 = t then (if j < 0 then none else ob.2[j.toNatClampNeg]?) else none
def rI (D : Hp) (a t : Nat) (j : Int32) : Option Int32 := (rV D a t j).bind asI
def rJ (D : Hp) (a t : Nat) (j : Int32) : Option Int64 := (rV D a t j).bind asJ
def wV (D : Hp) (a t : Nat) (j : Int32) (v : Value) : Option Hp := (D[a]?).bind fun ob => if ob.1 = t then (if j < 0 then none else if j.toNatClampNeg < ob.2.length then some (D.set a (t, ob.2.set j.toNatClampNeg v)) else none) else none
def lA (D : Hp) (a t : Nat) : Option Int32 := (D[a]?).bind fun ob => if ob.1 = t then some ob.2.length.toInt32 else none
def nA (D : Hp) (t : Nat) (n : Int32) (cap : Nat) (z : Value) : Option Hp := if n < 0 then none else if n.toNatClampNeg ≤ cap then some (D ++ [(t, List.replicate n.toNatClampNeg z)]) else none
def cA' (D : Hp) (a t cap : Nat) : Option Hp := (D[a]?).bind fun ob => if ob.1 = t then (if ob.2.length ≤ cap then some (D ++ [(t, ob.2)]) else none) else none
def Ob1 (K : Kt) (Z : State) (h : Heap) (n0 a t : Nat) (vs : List Value) : Prop :=
  (∀ ty, (K t).1 = .array ty → Exa Z h a ("[" ++ ty.toString) ∧ ∃ c : Cell, Arr Z h a c ty ∧ c.slots = (vs.map (sh n0)).toArray ∧ vs.length < 2 ^ 31 ∧ ∀ v ∈ vs, fits ty v = true) ∧
  (∀ C, (K t).1 = .object C → Exa Z h a C ∧ ∀ (i : Nat) (f d : String), (K t).2[i]? = some (f, d) → ∃ v : Value, vs[i]? = some v ∧ Fld Z h a C f d (sh n0 v))
def Ow (K : Kt) (Z : State) (h : Heap) (n0 : Nat) (D : Hp) : Prop := h.size = n0 + D.length ∧ ∀ (k t : Nat) (vs : List Value), D[k]? = some (t, vs) → Ob1 K Z h n0 (n0 + k) t vs
def Lay (K : Kt) (Z : State) (a0 : Array Value) : Prop := ∀ t C, (K t).1 = .object C → (∀ q ∈ (K t).2, Laid Z a0 C C q.1 q.2 ∧ ∃ ty, parseFieldDescriptor q.2 = some ty) ∧ ((K t).2.map Prod.fst).Nodup
section OwnHeap
variable {K : Kt} {Z : State} {h h' : Heap} {n0 : Nat} {D D' : Hp} {a t i : Nat} {v : Value} {j : Int32} {C f d : String} {ty : FieldType}
theorem gV_e (hg : gV D a t i = some v) : ∃ vs, D[a]? = some (t, vs) ∧ vs[i]? = some v := by
  obtain ⟨⟨t', vs⟩, h1, h2⟩ := own_bind hg
  by_cases q : t' = t
  · subst q; rw [if_pos rfl] at h2; exact ⟨vs, h1, h2⟩
  · rw [if_neg q] at h2; cases h2
theorem gI_e {x : Int32} (hg : gI D a t i = some x) : gV D a t i = some (.int x) := by
  obtain ⟨w, h1, h2⟩ := own_bind hg
  cases w <;> cases h2; exact h1
theorem gJ_e {x : Int64} (hg : gJ D a t i = some x) : gV D a t i = some (.long x) := by
  obtain ⟨w, h1, h2⟩ := own_bind hg
  cases w <;> cases h2; exact h1
theorem gR_e {x : Nat} (hg : gR D a t i = some x) : gV D a t i = some (.ref x) := by
  obtain ⟨w, h1, h2⟩ := own_bind hg
  cases w <;> cases h2; exact h1
theorem ck_e {q : Nat} (hg : ck D a t = some q) : ∃ vs, D[a]? = some (t, vs) := by
  obtain ⟨⟨t', vs⟩, h1, h2⟩ := own_bind hg
  by_cases q : t' = t
  · subst q; exact ⟨vs, h1⟩
  · rw [if_neg q] at h2; cases h2
theorem rV_e (hg : rV D a t j = some v) : ∃ vs, D[a]? = some (t, vs) ∧ ¬ j < 0 ∧ vs[j.toNatClampNeg]? = some v := by
  obtain ⟨⟨t', vs⟩, h1, h2⟩ := own_bind hg
  by_cases q : t' = t
  · subst q; rw [if_pos rfl] at h2
    by_cases r : j < 0
    · rw [if_pos r] at h2; cases h2
    · rw [if_neg r] at h2; exact ⟨vs, h1, r, h2⟩
  · rw [if_neg q] at h2; cases h2
theorem rI_e {x : Int32} (hg : rI D a t j = some x) : rV D a t j = some (.int x) := by
  obtain ⟨w, h1, h2⟩ := own_bind hg
  cases w <;> cases h2; exact h1
theorem rJ_e {x : Int64} (hg : rJ D a t j = some x) : rV D a t j = some (.long x) := by
  obtain ⟨w, h1, h2⟩ := own_bind hg
  cases w <;> cases h2; exact h1
theorem wV_e (hg : wV D a t j v = some D') : ∃ vs, D[a]? = some (t, vs) ∧ ¬ j < 0 ∧ j.toNatClampNeg < vs.length ∧ D' = D.set a (t, vs.set j.toNatClampNeg v) := by
  obtain ⟨⟨t', vs⟩, h1, h2⟩ := own_bind hg
  by_cases q : t' = t
  · subst q; rw [if_pos rfl] at h2
    by_cases r : j < 0
    · rw [if_pos r] at h2; cases h2
    · rw [if_neg r] at h2
      by_cases u : j.toNatClampNeg < vs.length
      · rw [if_pos u] at h2; cases h2; exact ⟨vs, h1, r, u, rfl⟩
      · rw [if_neg u] at h2; cases h2
  · rw [if_neg q] at h2; cases h2
theorem pV_e (hg : pV D a t i v = some D') : ∃ vs, D[a]? = some (t, vs) ∧ i < vs.length ∧ D' = D.set a (t, vs.set i v) := by
  obtain ⟨⟨t', vs⟩, h1, h2⟩ := own_bind hg
  by_cases q : t' = t
  · subst q; rw [if_pos rfl] at h2
    by_cases u : i < vs.length
    · rw [if_pos u] at h2; cases h2; exact ⟨vs, h1, u, rfl⟩
    · rw [if_neg u] at h2; cases h2
  · rw [if_neg q] at h2; cases h2
theorem cA_e {cap : Nat} (hg : cA' D a t cap = some D') : ∃ vs, D[a]? = some (t, vs) ∧ vs.length ≤ cap ∧ D' = D ++ [(t, vs)] := by
  obtain ⟨⟨t', vs⟩, h1, h2⟩ := own_bind hg
  by_cases q : t' = t
  · subst q; rw [if_pos rfl] at h2
    by_cases u : vs.length ≤ cap
    · rw [if_pos u] at h2; cases h2; exact ⟨vs, h1, u, rfl⟩
    · rw [if_neg u] at h2; cases h2
  · rw [if_neg q] at h2; cases h2
theorem lA_e {x : Int32} (hg : lA D a t = some x) : ∃ vs, D[a]? = some (t, vs) ∧ x = vs.length.toInt32 := by
  obtain ⟨⟨t', vs⟩, h1, h2⟩ := own_bind hg
  by_cases q : t' = t
  · subst q; rw [if_pos rfl] at h2; cases h2; exact ⟨vs, h1, rfl⟩
  · rw [if_neg q] at h2; cases h2
theorem Ow.fld (O : Ow K Z h n0 D) (hg : gV D a t i = some v) (hK : (K t).1 = .object C) (hf : (K t).2[i]? = some (f, d)) : Fld Z h (n0 + a) C f d (sh n0 v) := by
  obtain ⟨vs, h1, h2⟩ := gV_e hg
  obtain ⟨w, h3, h4⟩ := ((O.2 a t vs h1).2 C hK).2 i f d hf
  cases h2.symm.trans h3; exact h4
theorem Ow.fld0 (O : Ow K Z h n0 D) (hg : pV D a t i v = some D') (hK : (K t).1 = .object C) (hf : (K t).2[i]? = some (f, d)) : ∃ w, Fld Z h (n0 + a) C f d w := by
  obtain ⟨vs, h1, h2, -⟩ := pV_e hg
  obtain ⟨w, h3, h4⟩ := ((O.2 a t vs h1).2 C hK).2 i f d hf
  exact ⟨_, h4⟩
theorem Ow.exa (O : Ow K Z h n0 D) {vs : List Value} (hg : D[a]? = some (t, vs)) (hK : (K t).1 = .object C) : Exa Z h (n0 + a) C := ((O.2 a t vs hg).2 C hK).1
theorem Ow.exaC (O : Ow K Z h n0 D) {q : Nat} (hg : ck D a t = some q) (hK : (K t).1 = .object C) : Exa Z h (n0 + a) C := by
  obtain ⟨vs, h1⟩ := ck_e hg; exact O.exa h1 hK
theorem Ow.exaP (O : Ow K Z h n0 D) (hg : pV D a t i v = some D') (hK : (K t).1 = .object C) : Exa Z h (n0 + a) C := by
  obtain ⟨vs, h1, -⟩ := pV_e hg; exact O.exa h1 hK
theorem sh_len (vs : List Value) : ((vs.map (sh n0)).toArray).size = vs.length := by simp
/-- the array at a, its cell, that the place j lies in it and what it holds -/
theorem Ow.arrR (O : Ow K Z h n0 D) (hg : rV D a t j = some v) (hK : (K t).1 = .array ty) : ∃ c : Cell, Arr Z h (n0 + a) c ty ∧ ¬ (j < 0 ∨ c.slots.size ≤ j.toNatClampNeg) ∧ c.slots[j.toNatClampNeg]? = some (sh n0 v) := by
  obtain ⟨vs, h1, h2, h3⟩ := rV_e hg
  obtain ⟨-, c, A, hs, -, -⟩ := (O.2 a t vs h1).1 ty hK
  have hlt := (List.getElem?_eq_some_iff.mp h3).1
  refine ⟨c, A, ?_, ?_⟩
  · rw [hs, sh_len]; intro q; rcases q with q | q
    · exact h2 q
    · omega
  · rw [hs]; simp [h3]
theorem Ow.arrL (O : Ow K Z h n0 D) {x : Int32} (hg : lA D a t = some x) (hK : (K t).1 = .array ty) : ∃ c : Cell, Arr Z h (n0 + a) c ty ∧ c.slots.size.toInt32 = x := by
  obtain ⟨vs, h1, h2⟩ := lA_e hg
  obtain ⟨-, c, A, hs, -, -⟩ := (O.2 a t vs h1).1 ty hK
  exact ⟨c, A, by rw [hs, sh_len, h2]⟩
theorem Ow.arrW (O : Ow K Z h n0 D) (hg : wV D a t j v = some D') (hK : (K t).1 = .array ty) : ∃ c : Cell, Arr Z h (n0 + a) c ty ∧ ¬ (j < 0 ∨ c.slots.size ≤ j.toNatClampNeg) := by
  obtain ⟨vs, h1, h2, h3, -⟩ := wV_e hg
  obtain ⟨-, c, A, hs, -, -⟩ := (O.2 a t vs h1).1 ty hK
  refine ⟨c, A, ?_⟩
  rw [hs, sh_len]; intro q; rcases q with q | q
  · exact h2 q
  · omega
theorem own_get_set {k : Nat} {ob ob' : Nat × List Value} (hk : (D.set a ob)[k]? = some ob') : (k = a ∧ ob' = ob ∧ a < D.length) ∨ (k ≠ a ∧ D[k]? = some ob') := by
  by_cases q : k = a
  · subst q
    rw [List.getElem?_set] at hk
    simp only [if_true] at hk
    by_cases r : k < D.length
    · rw [if_pos r] at hk; cases hk; exact Or.inl ⟨rfl, rfl, r⟩
    · rw [if_neg r] at hk; cases hk
  · rw [List.getElem?_set_ne (Ne.symm q)] at hk; exact Or.inr ⟨q, hk⟩
theorem Ob1.other {x y k : Nat} {vs : List Value} {w : Value} {sl : Nat} (B : Ob1 K Z h n0 x k vs) (W : Wr h h' y sl w) (hne : x ≠ y) : Ob1 K Z h' n0 x k vs := by
  refine ⟨fun ty hK => ?_, fun C hK => ?_⟩
  · obtain ⟨E, c, A, r⟩ := B.1 ty hK
    exact ⟨E.wr W, c, A.other W hne, r⟩
  · obtain ⟨E, F⟩ := B.2 C hK
    refine ⟨E.wr W, fun i f d hi => ?_⟩
    obtain ⟨v, h1, h2⟩ := F i f d hi
    exact ⟨v, h1, h2.other W (Or.inl hne)⟩
theorem Ow.st (O : Ow K Z h n0 D) (hg : wV D a t j v = some D') (hK : (K t).1 = .array ty) (hfit : fits ty v = true) (W : Wr h h' (n0 + a) j.toNatClampNeg (sh n0 v)) : Ow K Z h' n0 D' := by
  obtain ⟨vs, h1, h2, h3, rfl⟩ := wV_e hg
  refine ⟨by rw [W.size, O.1, List.length_set], fun k t' vs' hk => ?_⟩
  rcases own_get_set hk with ⟨rfl, e, -⟩ | ⟨hne, hk'⟩
  · cases e
    refine ⟨fun ty' hK' => ?_, fun C hK' => ?_⟩
    · cases hK.symm.trans hK'
      obtain ⟨E, c, A, hs, hl, hf⟩ := (O.2 _ _ vs h1).1 _ hK
      refine ⟨E.wr W, _, A.same W, ?_, by rw [List.length_set]; exact hl, fun w hw => ?_⟩
      · simp only [Cell.setSlot, hs]
        rw [List.map_set]
        simp
      · rcases List.mem_or_eq_of_mem_set hw with q | q
        · exact hf w q
        · rw [q]; exact hfit
    · rw [hK] at hK'; cases hK'
  · exact (O.2 k t' vs' hk').other W (by omega)
theorem Ow.put {a0 : Array Value} (O : Ow K Z h n0 D) (hL : Lay K Z a0) (hg : pV D a t i v = some D') (hK : (K t).1 = .object C) (hf : (K t).2[i]? = some (f, d)) (W : Wr h h' (n0 + a) (Jvm.RoadKit.slotOf Z C f d) (sh n0 v)) : Ow K Z h' n0 D' := by
  obtain ⟨vs, h1, h3, rfl⟩ := pV_e hg
  refine ⟨by rw [W.size, O.1, List.length_set], fun k t' vs' hk => ?_⟩
  rcases own_get_set hk with ⟨rfl, e, -⟩ | ⟨hne, hk'⟩
  · cases e
    refine ⟨fun ty' hK' => (by rw [hK] at hK'; cases hK'), fun C' hK' => ?_⟩
    cases hK.symm.trans hK'
    obtain ⟨E, F⟩ := (O.2 _ _ vs h1).2 _ hK
    refine ⟨E.wr W, fun i' f' d' hi' => ?_⟩
    obtain ⟨w, g1, g2⟩ := F i' f' d' hi'
    by_cases q : i' = i
    · subst q
      cases hf.symm.trans hi'
      exact ⟨v, by rw [List.getElem?_set]; simp [h3], g2.same W⟩
    · refine ⟨w, by rw [List.getElem?_set_ne (Ne.symm q)]; exact g1, g2.other W (Or.inr ?_)⟩
      obtain ⟨hl, hn⟩ := hL t C hK
      obtain ⟨l1, ty1, p1⟩ := hl _ (List.mem_of_getElem? hf)
      obtain ⟨l2, ty2, p2⟩ := hl _ (List.mem_of_getElem? hi')
      refine slot_ne l2 l1 (fun e => q ?_) p2 p1
      have m1 : ((K t).2.map Prod.fst)[i]? = some f := by rw [List.getElem?_map, hf]; rfl
      have m2 : ((K t).2.map Prod.fst)[i']? = some f' := by rw [List.getElem?_map, hi']; rfl
      obtain ⟨b1, c1⟩ := List.getElem?_eq_some_iff.mp m1
      obtain ⟨b2, c2⟩ := List.getElem?_eq_some_iff.mp m2
      exact (List.getElem_inj hn).mp (by rw [c1, c2]; exact e)
  · exact (O.2 k t' vs' hk').other W (by omega)
theorem Ob1.ext {x k : Nat} {vs : List Value} (B : Ob1 K Z h n0 x k vs) (E : Ext h h') : Ob1 K Z h' n0 x k vs := by
  refine ⟨fun ty hK => ?_, fun C hK => ?_⟩
  · obtain ⟨F, c, A, r⟩ := B.1 ty hK
    exact ⟨F.ext E, c, A.ext E, r⟩
  · obtain ⟨X, F⟩ := B.2 C hK
    refine ⟨X.ext E, fun i f d hi => ?_⟩
    obtain ⟨v, h1, h2⟩ := F i f d hi
    exact ⟨v, h1, h2.ext E⟩
theorem Ow.push {vs : List Value} (O : Ow K Z h n0 D) (E : Ext h h') (hsz : h'.size = h.size + 1) (B : Ob1 K Z h' n0 (n0 + D.length) t vs) : Ow K Z h' n0 (D ++ [(t, vs)]) := by
  refine ⟨by rw [hsz, O.1, List.length_append]; rfl, fun k t' vs' hk => ?_⟩
  by_cases q : k < D.length
  · rw [List.getElem?_append_left q] at hk; exact (O.2 k t' vs' hk).ext E
  · rw [List.getElem?_append_right (Nat.le_of_not_lt q)] at hk
    have e : k - D.length = 0 := by
      have := (List.getElem?_eq_some_iff.mp hk).1
      simp only [List.length_singleton] at this; omega
    rw [e] at hk
    have hk2 : (t, vs) = (t', vs') := Option.some.inj hk
    cases hk2
    have : k = D.length := by omega
    rw [this]; exact B
theorem sh_default (ty : FieldType) : sh n0 (defaultValue ty) = defaultValue ty := by cases ty <;> rfl
theorem own_ow0 (h : Heap) : Ow K Z h h.size [] := ⟨by simp, fun k t vs hk => by simp at hk⟩
end OwnHeap
/-! 3. the laws of the library, over that list -/
section OwnLaws
variable {p : Program} {l : Launch} {e : Env} {R : Room} {s : State} {m : MethodId} {args : Array Value} {below : List Frame} {meth : Method} {c : Code} {T : State} {locs : List Loc} {cells slots : Nat} {Z : State} {a0 : Array Value} {h : Heap} {K : Kt} {n0 : Nat} {D D' : Hp} {a t : Nat}
theorem ldW (X : Stand p l e R s m args below meth c T locs cells slots) (hx : p.tables.exec = Jvm.exec) (hZ : Z.Warmed39 s.vm) (eT : T.heap = h) (O : Ow K Z h n0 D) {j : Int32} {x : Int32} (hg : rI D a t j = some x) (hK : (K t).1 = .array .int)
    {g : JFrame} (hgm : g.method = m) {rest : List Value} (hs : g.stack = .int j :: .ref (n0 + a) :: rest) (hd : decode c.code g.pc = .ok (.iaload, 1)) (target : State)
    (hr : Steps p.tables e below (T.setTop { g with pc := g.pc + 1, stack := .int x :: rest }) target) : Steps p.tables e below (T.setTop g) target := by
  obtain ⟨cl, A, hin, hat⟩ := O.arrR (rI_e hg) hK
  exact X.iaload hx (v := .int x) (by rw [eT]; exact A.1) (State.isArrayOf_alike hZ.alike A.2.1) A.2.2 hin hat hgm hs hd target hr
theorem ldB (X : Stand p l e R s m args below meth c T locs cells slots) (hx : p.tables.exec = Jvm.exec) (hZ : Z.Warmed39 s.vm) (eT : T.heap = h) (O : Ow K Z h n0 D) {j : Int32} {x : Int32} (hg : rI D a t j = some x) (hK : (K t).1 = .array .byte)
    {g : JFrame} (hgm : g.method = m) {rest : List Value} (hs : g.stack = .int j :: .ref (n0 + a) :: rest) (hd : decode c.code g.pc = .ok (.baload, 1)) (target : State)
    (hr : Steps p.tables e below (T.setTop { g with pc := g.pc + 1, stack := .int x :: rest }) target) : Steps p.tables e below (T.setTop g) target := by
  obtain ⟨cl, A, hin, hat⟩ := O.arrR (rI_e hg) hK
  exact X.baloadBytes hx (v := .int x) (by rw [eT]; exact A.1) (State.isArrayOf_alike hZ.alike A.2.1) A.2.2 hin hat hgm hs hd target hr
theorem ldJ (X : Stand p l e R s m args below meth c T locs cells slots) (hx : p.tables.exec = Jvm.exec) (hZ : Z.Warmed39 s.vm) (eT : T.heap = h) (O : Ow K Z h n0 D) {j : Int32} {x : Int64} (hg : rJ D a t j = some x) (hK : (K t).1 = .array .long)
    {g : JFrame} (hgm : g.method = m) {rest : List Value} (hs : g.stack = .int j :: .ref (n0 + a) :: rest) (hd : decode c.code g.pc = .ok (.laload, 1)) (target : State)
    (hr : Steps p.tables e below (T.setTop { g with pc := g.pc + 1, stack := .long x :: rest }) target) : Steps p.tables e below (T.setTop g) target := by
  obtain ⟨cl, A, hin, hat⟩ := O.arrR (rJ_e hg) hK
  exact X.laload hx (v := .long x) (by rw [eT]; exact A.1) (State.isArrayOf_alike hZ.alike A.2.1) A.2.2 hin hat hgm hs hd target hr
theorem lenW' (X : Stand p l e R s m args below meth c T locs cells slots) (hx : p.tables.exec = Jvm.exec) (hZ : Z.Warmed39 s.vm) (eT : T.heap = h) (O : Ow K Z h n0 D) {x : Int32} (hg : lA D a t = some x) {ty : FieldType} (hK : (K t).1 = .array ty)
    {g : JFrame} (hgm : g.method = m) {rest : List Value} (hs : g.stack = .ref (n0 + a) :: rest) (hd : decode c.code g.pc = .ok (.arraylength, 1)) (target : State)
    (hr : Steps p.tables e below (T.setTop { g with pc := g.pc + 1, stack := .int x :: rest }) target) : Steps p.tables e below (T.setTop g) target := by
  obtain ⟨cl, A, hl⟩ := O.arrL hg hK
  subst hl
  exact X.arraylength hx (by rw [eT]; exact A.1) (State.isArrayOf_alike hZ.alike A.2.1) hgm hs hd target hr
theorem stIW (X : Stand p l e R s m args below meth c T locs cells slots) (hx : p.tables.exec = Jvm.exec) (hZ : Z.Warmed39 s.vm) (eT : T.heap = h) (O : Ow K Z h n0 D) (N : Fr n0 locs) {j x : Int32} (hg : wV D a t j (.int x) = some D') (hK : (K t).1 = .array .int)
    {g : JFrame} (hgm : g.method = m) {rest : List Value} (hs : g.stack = .int x :: .int j :: .ref (n0 + a) :: rest) (hd : decode c.code g.pc = .ok (.iastore, 1)) :
    ∃ T' h' L, Stand p l e R s m args below meth c T' L cells slots ∧ T'.heap = h' ∧ Ow K Z h' n0 D' ∧ Fr n0 L ∧ ∀ target, Steps p.tables e below (T'.setTop { g with pc := g.pc + 1, stack := rest }) target → Steps p.tables e below (T.setTop g) target := by
  obtain ⟨cl, A, hin⟩ := O.arrW hg hK
  obtain ⟨T', h', X', e', W, st⟩ := stI X hx hZ eT A hin hgm hs hd
  exact ⟨T', h', _, X', e', O.st hg hK rfl W, Fr.snoc X' N (Nat.le_add_right _ _), st⟩
theorem stBW (X : Stand p l e R s m args below meth c T locs cells slots) (hx : p.tables.exec = Jvm.exec) (hZ : Z.Warmed39 s.vm) (eT : T.heap = h) (O : Ow K Z h n0 D) (N : Fr n0 locs) {j x : Int32} (hg : wV D a t j (.int x.toInt8.toInt32) = some D') (hK : (K t).1 = .array .byte)
    {g : JFrame} (hgm : g.method = m) {rest : List Value} (hs : g.stack = .int x :: .int j :: .ref (n0 + a) :: rest) (hd : decode c.code g.pc = .ok (.bastore, 1)) :
    ∃ T' h' L, Stand p l e R s m args below meth c T' L cells slots ∧ T'.heap = h' ∧ Ow K Z h' n0 D' ∧ Fr n0 L ∧ ∀ target, Steps p.tables e below (T'.setTop { g with pc := g.pc + 1, stack := rest }) target → Steps p.tables e below (T.setTop g) target := by
  obtain ⟨cl, A, hin⟩ := O.arrW hg hK
  obtain ⟨T', h', X', e', W, st⟩ := stB X hx hZ eT A hin hgm hs hd
  exact ⟨T', h', _, X', e', O.st hg hK (fits_nar_byte _) W, Fr.snoc X' N (Nat.le_add_right _ _), st⟩
theorem stJW (X : Stand p l e R s m args below meth c T locs cells slots) (hx : p.tables.exec = Jvm.exec) (hZ : Z.Warmed39 s.vm) (eT : T.heap = h) (O : Ow K Z h n0 D) (N : Fr n0 locs) {j : Int32} {x : Int64} (hg : wV D a t j (.long x) = some D') (hK : (K t).1 = .array .long)
    {g : JFrame} (hgm : g.method = m) {rest : List Value} (hs : g.stack = .long x :: .int j :: .ref (n0 + a) :: rest) (hd : decode c.code g.pc = .ok (.lastore, 1)) :
    ∃ T' h' L, Stand p l e R s m args below meth c T' L cells slots ∧ T'.heap = h' ∧ Ow K Z h' n0 D' ∧ Fr n0 L ∧ ∀ target, Steps p.tables e below (T'.setTop { g with pc := g.pc + 1, stack := rest }) target → Steps p.tables e below (T.setTop g) target := by
  obtain ⟨cl, A, hin⟩ := O.arrW hg hK
  obtain ⟨T', h', X', e', W, st⟩ := stJ X hx hZ eT A hin hgm hs hd
  exact ⟨T', h', _, X', e', O.st hg hK rfl W, Fr.snoc X' N (Nat.le_add_right _ _), st⟩
theorem putW (X : Stand p l e R s m args below meth c T locs cells slots) (hx : p.tables.exec = Jvm.exec) (hZ : Z.Warmed39 s.vm) {own C f d : String} {index kk i : Nat} {ty : FieldType} (hown : s.vm.findClass own = some m.cls) (w : (Cond.fieldLink own index C f d).before a0 Z = true) (hL : Lay K Z a0)
    (eT : T.heap = h) (O : Ow K Z h n0 D) (N : Fr n0 locs) {v : Value} (hg : pV D a t i v = some D') (hK : (K t).1 = .object C) (hf : (K t).2[i]? = some (f, d)) (L : (Cond.lays C C f d).before a0 Z = true ∨ ((Cond.laysFinal C C f d).before a0 Z = true ∧ own = C ∧ meth.name = "<init>")) (wi : (Cond.instantiable C kk).before a0 Z = true)
    (hty : parseFieldDescriptor d = some ty) (hn : narrow ty (sh n0 v) = sh n0 v) (hfit : fits ty (sh n0 v) = true) {g : JFrame} (hgm : g.method = m) {rest : List Value} (hs : g.stack = sh n0 v :: .ref (n0 + a) :: rest) (hd : decode c.code g.pc = .ok (.putfield index, 3)) :
    ∃ T' h' L, Stand p l e R s m args below meth c T' L cells slots ∧ T'.heap = h' ∧ Ow K Z h' n0 D' ∧ Fr n0 L ∧ ∀ target, Steps p.tables e below (T'.setTop { g with pc := g.pc + 3, stack := rest }) target → Steps p.tables e below (T.setTop g) target := by
  obtain ⟨old, F⟩ := O.fld0 hg hK hf
  obtain ⟨T', h', X', e', W, st⟩ := putF X hx hZ hown (host := "") (Or.inl w) Via.refl eT F (O.exaP hg hK) L wi hty hn hfit hgm hs hd
  exact ⟨T', h', _, X', e', O.put hL hg hK hf W, Fr.snoc X' N (Nat.le_add_right _ _), st⟩
theorem newW (X : Stand p l e R s m args below meth c T locs cells slots) (hx : p.tables.exec = Jvm.exec) (hZ : Z.Warmed39 s.vm) {own C : String} {index n : Nat} (hown : s.vm.findClass own = some m.cls) (w : (Cond.classLink own index C).before a0 Z = true) (wi : (Cond.instantiable C n).before a0 Z = true) (wz : (Cond.initialized C).before a0 Z = true) (hL : Lay K Z a0) (eT : T.heap = h) (O : Ow K Z h n0 D)
    (hK : (K t).1 = .object C) {ds : List Value} (hds : ∀ q ∈ (K t).2.zipIdx, ∃ ty, parseFieldDescriptor q.1.2 = some ty ∧ ds[q.2]? = some (defaultValue ty)) {g : JFrame} (hg : g.method = m) (hd : decode c.code g.pc = .ok (.new index, 3)) (hc : cells + 1 ≤ R.cells) (hl : slots + n ≤ R.slots) :
    ∃ T' h', Stand p l e R s m args below meth c T' locs (cells + 1) (slots + n) ∧ T'.heap = h' ∧ Ow K Z h' n0 (D ++ [(t, ds)]) ∧ ∀ target, Steps p.tables e below (T'.setTop { g with pc := g.pc + 3, stack := .ref (n0 + D.length) :: g.stack }) target → Steps p.tables e below (T.setTop g) target := by
  obtain ⟨vm', cC, kC, h1, h2, h3, h4, X', st⟩ := X.newCold hx hown (mv hZ w) (mv hZ wi) (mv hZ wz) hg hd hc hl
  subst eT
  rw [hZ.alike.findClass] at h1
  obtain ⟨kZ, z1, -⟩ := Vm.findClass_spec h1
  obtain ⟨k', z2, z3⟩ := hZ.alike.2.2 _ _ z1
  cases h2.symm.trans z2
  have ei : kC.instanceTypes = kZ.instanceTypes := by rw [z3]
  have hN : (T.heap.push { cls := cC, slots := kC.instanceTypes.map defaultValue, vm := .none })[T.heap.size]? = some { cls := cC, slots := kC.instanceTypes.map defaultValue, vm := .none } := by simp
  have E : Ext T.heap (T.heap.push { cls := cC, slots := kC.instanceTypes.map defaultValue, vm := .none }) := ⟨by simp, fun a c h => by
    rw [Array.getElem?_push_lt (Array.getElem?_eq_some_iff.mp h).1]; exact (Array.getElem?_eq_getElem _).symm.trans h⟩
  have hsz := O.1
  refine ⟨_, _, X', rfl, O.push E (by simp) ⟨fun ty hK' => (by rw [hK] at hK'; cases hK'), fun C' hK' => ?_⟩, by rw [← hsz]; exact st⟩
  cases hK.symm.trans hK'
  rw [← hsz]
  refine ⟨⟨_, kZ, hN, h1, z1, rfl, fun _ => by simp [ei]⟩, fun i f d hi => ?_⟩
  obtain ⟨ty, t1, t2⟩ := hds ((f, d), i) (List.mem_zipIdx_iff_getElem?.mpr hi)
  refine ⟨_, t2, ?_⟩
  rw [sh_default]
  obtain ⟨c1, k1, cf, kf, i', f', a1, a2, a3, a4, a5, a6, -⟩ := ((hL t C hK).1 _ (List.mem_of_getElem? hi)).1.spec
  cases h1.symm.trans a1
  cases z1.symm.trans a2
  exact ⟨_, cf, kf, i', f', hN, a3, a4, by simp, rfl, a5, by simp [ei, a6, (State.fieldFound?_type a3 t1).2]⟩
theorem newAW (X : Stand p l e R s m args below meth c T locs cells slots) (hx : p.tables.exec = Jvm.exec) (hZ : Z.Warmed39 s.vm) {aty : ArrayType} (w : (Cond.arrayClass (newarray.typeOf aty)).before a0 Z = true) (eT : T.heap = h) (O : Ow K Z h n0 D) (hK : (K t).1 = .array (newarray.typeOf aty))
    {n : Int32} {cap : Nat} {z : Value} (hz : z = defaultValue (newarray.typeOf aty)) (hn : nA D t n cap z = some D') {g : JFrame} (hg : g.method = m) (hd : decode c.code g.pc = .ok (.newarray aty, 2)) {rest : List Value} (hs : g.stack = .int n :: rest)
    (hb : cap * 8 ≤ 536870912) (hc : cells + 1 ≤ R.cells) (hl : slots + cap ≤ R.slots) :
    ∃ T' h', Stand p l e R s m args below meth c T' locs (cells + 1) (slots + cap) ∧ T'.heap = h' ∧ Ow K Z h' n0 D' ∧ ∀ target, Steps p.tables e below (T'.setTop { g with pc := g.pc + 2, stack := .ref (n0 + D.length) :: rest }) target → Steps p.tables e below (T.setTop g) target := by
  have hcb : componentBytes (newarray.typeOf aty) ≤ 8 := by cases aty <;> decide
  by_cases q : n < 0
  · simp only [nA, if_pos q] at hn; cases hn
  simp only [nA, if_neg q] at hn
  by_cases hcap : n.toNatClampNeg ≤ cap
  · rw [if_pos hcap] at hn
    cases hn
    obtain ⟨cA, kA, comp, h1, h2, h3, X', st⟩ := X.newarrayPrim hx (mvA hZ w) hg hd hs q (Nat.le_trans (Nat.mul_le_mul hcap hcb) hb) hc (by omega)
    subst eT
    rw [hZ.alike.findClass] at h1
    obtain ⟨kZ, z1, -⟩ := Vm.findClass_spec h1
    obtain ⟨k', z2, z3⟩ := hZ.alike.2.2 _ _ z1
    cases h2.symm.trans z2
    have hsz := O.1
    refine ⟨_, _, X'.more (Nat.le_refl _) (by omega), rfl, O.push (h' := T.heap.push _) ⟨by simp, fun a c h => ?_⟩ (by simp) ⟨fun ty hK' => ?_, fun C hK' => by rw [hK] at hK'; cases hK'⟩, by rw [← hsz]; exact st⟩
    · rw [Array.getElem?_push_lt (Array.getElem?_eq_some_iff.mp h).1]; exact (Array.getElem?_eq_getElem _).symm.trans h
    · cases hK.symm.trans hK'
      rw [← hsz]
      have ek : kZ.kind = .array comp (newarray.typeOf aty) := by rw [← h3, z3]
      refine ⟨⟨_, kZ, Array.getElem?_push_size, h1, z1, rfl, fun q => by rw [ek] at q; cases q⟩, _, ⟨Array.getElem?_push_size, ⟨by simp, kZ, z1, comp, ek⟩, by simp⟩, ?_, ?_, fun v hv => ?_⟩
      · rw [hz, List.map_replicate, sh_default]; simp
      · rw [List.length_replicate]; exact (back32 q).2
      · rw [(List.mem_replicate.mp hv).2, hz]; cases aty <;> rfl
  · rw [if_neg hcap] at hn; cases hn
/-! 4. contracts and calls -/
def Qw (K : Kt) (Z : State) (n0 : Nat) (r : Option Value) (D' : Hp) : Option Value → Heap → List Loc → Prop := fun v h L => v = r ∧ Fr n0 L ∧ Ow K Z h n0 D'
def Ct (K : Kt) (l : Launch) (Z : State) (y : MethodName) (cw : Jvm.Cond) (rm : Room) (n0 : Nat) (D : Hp) (as' : Array Value) (r : Option Value) (D' : Hp) : Prop :=
  ∀ (h0 : Heap) (ws : List Jvm.Cond), Ow K Z h0 n0 D → MetFree l y (head1 (cw :: ws) rm) (fun a U => a = as' ∧ Z.Warmed39 U.vm ∧ U.heap = h0) (fun _ _ _ _ _ => True) (fun _ U o U' => ∃ v L, o = .returned v ∧ Qw K Z n0 r D' v U'.heap L ∧ FrameEnd U o U' L rm.cells rm.slots)
/-- what stands still through a body -/
def Cx (p : Program) (s : State) (m : MethodId) (meth : Method) (c : Code) (Z : State) (bytes : ByteArray) (maxL : Nat) (ret : Option FieldType) (own nm : String) : Prop :=
  p.tables.exec = Jvm.exec ∧ Z.Warmed39 s.vm ∧ c.code = bytes ∧ c.maxLocals = maxL ∧ s.vm.findClass own = some m.cls ∧ meth.name = nm ∧ meth.sig.returnType = ret ∧ meth.locks = false
variable {y : MethodName} {bytes : ByteArray} {maxL : Nat} {ret : Option FieldType} {rm : Room} {r : Option Value}
theorem Ct.of {as' : Array Value} (hpl : plainFor y = true) (body : ∀ (p : Program) (e : Env) (s : State) (m : MethodId) (below : List Frame) (meth : Method) (c : Code) (s₁ : State) (h0 : Heap), Cx p s m meth c Z bytes maxL ret y.cls y.name → Stand p l e rm s m as' below meth c s₁ [] 0 0 → s₁.heap = h0 → Ow K Z h0 n0 D →
      Gl p e below s rm.cells rm.slots (Qw K Z n0 r D') (s₁.setTop (entryFrame m as' maxL))) : Ct K l Z y (.code y bytes maxL ret) rm n0 D as' r D' := by
  intro h0 ws O
  refine MetFree.of_bodySF hpl hisR ?_
  intro p e s m args below meth c s₁ Bd hml0 hP hK
  obtain ⟨rfl, hZ, hh⟩ := hP
  exact body p e s m below meth c s₁ h0 ⟨Bd.exec, hZ, Bd.bytes, hml0, findClass_of_methodNamed Bd.named, (name_of_methodNamed Bd.named Bd.method).1, Bd.returns, BodyLoose.notSynchronized Bd⟩ (Stand.of_body Bd) (by rw [← hh, Bd.state]; rfl) O
theorem Ct.ofH {as' : Array Value} {hs : List (Nat × Nat × Nat × Nat)} (hpl : plainFor y = true) (body : ∀ (p : Program) (e : Env) (s : State) (m : MethodId) (below : List Frame) (meth : Method) (c : Code) (s₁ : State) (h0 : Heap), Cx p s m meth c Z bytes maxL ret y.cls y.name → Stand p l e rm s m as' below meth c s₁ [] 0 0 → s₁.heap = h0 → Ow K Z h0 n0 D →
      Gl p e below s rm.cells rm.slots (Qw K Z n0 r D') (s₁.setTop (entryFrame m as' maxL))) : Ct K l Z y (.codeWith y bytes maxL ret hs) rm n0 D as' r D' := by
  intro h0 ws O
  refine MetFree.of_bodySF hpl hisWith ?_
  intro p e s m args below meth c s₁ Bd hml0 hP hK
  obtain ⟨rfl, hZ, hh⟩ := hP
  exact body p e s m below meth c s₁ h0 ⟨Bd.exec, hZ, Bd.bytes, hml0, findClass_of_methodNamed Bd.named, (name_of_methodNamed Bd.named Bd.method).1, Bd.returns, BodyLoose.notSynchronized Bd⟩ (Stand.of_body Bd) (by rw [← hh, Bd.state]; rfl) O
theorem callSW (X : Stand p l e R s m args below meth c T locs cells slots) (hx : p.tables.exec = Jvm.exec) (hZ : Z.Warmed39 s.vm) {own : String} {index : Nat} (hown : s.vm.findClass own = some m.cls) (w1 : (Cond.methodLink own index y).before a0 Z = true) (w2 : (Cond.static y).before a0 Z = true) (w3 : (Cond.initialized y.cls).before a0 Z = true) (w4 : (Cond.code y bytes maxL ret).before a0 Z = true)
    (hy : y.cls ≠ "java/lang/invoke/MethodHandle" ∧ y.cls ≠ "java/lang/invoke/VarHandle") (eT : T.heap = h) (O : Ow K Z h n0 D) (N : Fr n0 locs) {as' : List Value} (hM : Ct K l Z y (.code y bytes maxL ret) rm n0 D as'.toArray r D') {W kc ks : Nat} (hkc : rm.cells = kc) (hks : rm.slots = ks) (hf : rm.frames + 1 ≤ R.frames) (hl : W + (maxL + 11) + rm.locals ≤ R.locals)
    {g : JFrame} (hg : g.method = m) (hsize : g.locals.size = c.maxLocals) {rest : List Value} (hlen : ∀ sig, parseMethodDescriptor y.desc = some sig → as'.length = sig.parameters.length) (hs : g.stack = as'.reverse ++ rest) (hW : 2 * g.monitorRoom + (rest.map fun v => v.category).sum ≤ W) (hd : decode c.code g.pc = .ok (.invokestatic index, 3)) (hc : cells + kc ≤ R.cells) (hsl : slots + ks ≤ R.slots) :
    ∃ T' h' L, Stand p l e R s m args below meth c T' L (cells + kc) (slots + ks) ∧ T'.heap = h' ∧ Ow K Z h' n0 D' ∧ Fr n0 L ∧ ∀ target, Steps p.tables e below (T'.setTop { g with pc := g.pc + 3, stack := r.toList ++ rest }) target → Steps p.tables e below (T.setTop g) target := by
  subst hkc hks
  obtain ⟨_, _, ⟨T', L', k', n'⟩, -, X', ⟨Lc, hQ, hL, hk, hn⟩, st⟩ := Jvm.LawKit.callS X hx hown (mvT hZ w1) (mvT hZ w2) (mvT hZ w3) (mvT hZ w4) hy (backOf (W := W) (hM h [] O) hZ w4 w3 hf hl) hg hsize (argsL := as') hlen hs hW hd (fun _ _ => ⟨rfl, eT, hc, hsl⟩)
  dsimp only [Pt.U, Pt.locs, Pt.cells, Pt.slots] at X' hL hk hn st hQ
  subst hL hk hn
  obtain ⟨rfl, N', O'⟩ := hQ
  exact ⟨T', _, _, X', rfl, O', N.app N', st⟩
theorem callSHW (X : Stand p l e R s m args below meth c T locs cells slots) (hx : p.tables.exec = Jvm.exec) (hZ : Z.Warmed39 s.vm) {own : String} {index : Nat} {hs' : List (Nat × Nat × Nat × Nat)} (hown : s.vm.findClass own = some m.cls) (w1 : (Cond.methodLink own index y).before a0 Z = true) (w2 : (Cond.static y).before a0 Z = true) (w3 : (Cond.initialized y.cls).before a0 Z = true) (w4 : (Cond.codeWith y bytes maxL ret hs').before a0 Z = true)
    (hy : y.cls ≠ "java/lang/invoke/MethodHandle" ∧ y.cls ≠ "java/lang/invoke/VarHandle") (eT : T.heap = h) (O : Ow K Z h n0 D) (N : Fr n0 locs) {as' : List Value} (hM : Ct K l Z y (.codeWith y bytes maxL ret hs') rm n0 D as'.toArray r D') {W kc ks : Nat} (hkc : rm.cells = kc) (hks : rm.slots = ks) (hf : rm.frames + 1 ≤ R.frames) (hl : W + (maxL + 11) + rm.locals ≤ R.locals)
    {g : JFrame} (hg : g.method = m) (hsize : g.locals.size = c.maxLocals) {rest : List Value} (hlen : ∀ sig, parseMethodDescriptor y.desc = some sig → as'.length = sig.parameters.length) (hs : g.stack = as'.reverse ++ rest) (hW : 2 * g.monitorRoom + (rest.map fun v => v.category).sum ≤ W) (hd : decode c.code g.pc = .ok (.invokestatic index, 3)) (hc : cells + kc ≤ R.cells) (hsl : slots + ks ≤ R.slots) :
    ∃ T' h' L, Stand p l e R s m args below meth c T' L (cells + kc) (slots + ks) ∧ T'.heap = h' ∧ Ow K Z h' n0 D' ∧ Fr n0 L ∧ ∀ target, Steps p.tables e below (T'.setTop { g with pc := g.pc + 3, stack := r.toList ++ rest }) target → Steps p.tables e below (T.setTop g) target := by
  subst hkc hks
  obtain ⟨_, _, ⟨T', L', k', n'⟩, -, X', ⟨Lc, hQ, hL, hk, hn⟩, st⟩ := callSH X hx hown (mvT hZ w1) (mvT hZ w2) (mvT hZ w3) (mvT hZ w4) hy (backOfWith (W := W) (hM h [] O) hZ w4 w3 hf hl) hg hsize (argsL := as') hlen hs hW hd (fun _ _ => ⟨rfl, eT, hc, hsl⟩)
  dsimp only [Pt.U, Pt.locs, Pt.cells, Pt.slots] at X' hL hk hn st hQ
  subst hL hk hn
  obtain ⟨rfl, N', O'⟩ := hQ
  exact ⟨T', _, _, X', rfl, O', N.app N', st⟩
theorem callIW (X : Stand p l e R s m args below meth c T locs cells slots) (hx : p.tables.exec = Jvm.exec) (hZ : Z.Warmed39 s.vm) {own : String} {index : Nat} (hy1 : y.name = "<init>") (hown : s.vm.findClass own = some m.cls) (w1 : (Cond.methodLink own index y).before a0 Z = true) (w2 : (Cond.instanceMethod y).before a0 Z = true) (w3 : (Cond.initialized y.cls).before a0 Z = true) (w4 : (Cond.code y bytes maxL none).before a0 Z = true)
    (hy : y.cls ≠ "java/lang/invoke/MethodHandle" ∧ y.cls ≠ "java/lang/invoke/VarHandle") (eT : T.heap = h) (O : Ow K Z h n0 D) (N : Fr n0 locs) {as' : List Value} (hM : Ct K l Z y (.code y bytes maxL none) rm n0 D (.ref (n0 + a) :: as').toArray r D') {W kc ks : Nat} (hkc : rm.cells = kc) (hks : rm.slots = ks) (hf : rm.frames + 1 ≤ R.frames) (hl : W + (maxL + 11) + rm.locals ≤ R.locals)
    {g : JFrame} (hg : g.method = m) (hsize : g.locals.size = c.maxLocals) {rest : List Value} (hlen : ∀ sig, parseMethodDescriptor y.desc = some sig → as'.length = sig.parameters.length) (hs : g.stack = as'.reverse ++ .ref (n0 + a) :: rest) (hW : 2 * g.monitorRoom + (rest.map fun v => v.category).sum ≤ W) (hd : decode c.code g.pc = .ok (.invokespecial index, 3)) (hc : cells + kc ≤ R.cells) (hsl : slots + ks ≤ R.slots) :
    ∃ T' h' L, Stand p l e R s m args below meth c T' L (cells + kc) (slots + ks) ∧ T'.heap = h' ∧ Ow K Z h' n0 D' ∧ Fr n0 L ∧ ∀ target, Steps p.tables e below (T'.setTop { g with pc := g.pc + 3, stack := r.toList ++ rest }) target → Steps p.tables e below (T.setTop g) target := by
  subst hkc hks
  obtain ⟨_, _, ⟨T', L', k', n'⟩, -, X', ⟨Lc, hQ, hL, hk, hn⟩, st⟩ := Jvm.LawKit.callI X hx hown hy1 (mvT hZ w1) (mvT hZ w2) (mvT hZ w4) hy (backOf (W := W) (hM h [] O) hZ w4 w3 hf hl) hg hsize (argsL := as') hlen hs hW hd (fun _ _ => ⟨rfl, eT, hc, hsl⟩)
  dsimp only [Pt.U, Pt.locs, Pt.cells, Pt.slots] at X' hL hk hn st hQ
  subst hL hk hn
  obtain ⟨rfl, N', O'⟩ := hQ
  exact ⟨T', _, _, X', rfl, O', N.app N', st⟩
theorem callVW (X : Stand p l e R s m args below meth c T locs cells slots) (hx : p.tables.exec = Jvm.exec) (hZ : Z.Warmed39 s.vm) {own C : String} {index : Nat} (hown : s.vm.findClass own = some m.cls) (w1 : (Cond.methodLink own index y).before a0 Z = true) (w2 : (Cond.declares y).before a0 Z = true) (w5 : (Cond.selects C y y).before a0 Z = true) (w6 : (Cond.instanceMethod y).before a0 Z = true) (w3 : (Cond.initialized y.cls).before a0 Z = true) (w4 : (Cond.code y bytes maxL ret).before a0 Z = true)
    (hy : y.cls ≠ "java/lang/invoke/MethodHandle" ∧ y.cls ≠ "java/lang/invoke/VarHandle") (eT : T.heap = h) (O : Ow K Z h n0 D) (N : Fr n0 locs) {q : Nat} (hck : ck D a t = some q) (hK : (K t).1 = .object C) {as' : List Value} (hM : Ct K l Z y (.code y bytes maxL ret) rm n0 D (.ref (n0 + a) :: as').toArray r D') {W kc ks : Nat} (hkc : rm.cells = kc) (hks : rm.slots = ks) (hf : rm.frames + 1 ≤ R.frames) (hl : W + (maxL + 11) + rm.locals ≤ R.locals)
    {g : JFrame} (hg : g.method = m) (hsize : g.locals.size = c.maxLocals) {rest : List Value} (hlen : ∀ sig, parseMethodDescriptor y.desc = some sig → as'.length = sig.parameters.length) (hs : g.stack = as'.reverse ++ .ref (n0 + a) :: rest) (hW : 2 * g.monitorRoom + (rest.map fun v => v.category).sum ≤ W) (hd : decode c.code g.pc = .ok (.invokevirtual index, 3)) (hc : cells + kc ≤ R.cells) (hsl : slots + ks ≤ R.slots) :
    ∃ T' h' L, Stand p l e R s m args below meth c T' L (cells + kc) (slots + ks) ∧ T'.heap = h' ∧ Ow K Z h' n0 D' ∧ Fr n0 L ∧ ∀ target, Steps p.tables e below (T'.setTop { g with pc := g.pc + 3, stack := r.toList ++ rest }) target → Steps p.tables e below (T.setTop g) target := by
  subst hkc hks
  obtain ⟨cq, kq, qa, qb, qc⟩ := isOf hZ eT (O.exaC hck hK)
  obtain ⟨_, _, ⟨T', L', k', n'⟩, -, X', ⟨Lc, hQ, hL, hk, hn⟩, st⟩ := X.virtualBack hx (y := y) (z := y) hown (mvT hZ w1) (mvT hZ w2) (notFace_of_selects (args := #[]) (mvT hZ w5)) (mvT hZ w5) (mvT hZ w6) hy (backOf (W := W) (hM h [] O) hZ w4 w3 hf hl) qa qc hg hsize (Steps.refl _) (argsL := as') hlen hs hW hd (fun _ _ => ⟨rfl, eT, hc, hsl⟩)
  dsimp only [Pt.U, Pt.locs, Pt.cells, Pt.slots] at X' hL hk hn st hQ
  subst hL hk hn
  obtain ⟨rfl, N', O'⟩ := hQ
  exact ⟨T', _, _, X', rfl, O', N.app N', fun target k => st.trans k⟩
theorem callPW (X : Stand p l e R s m args below meth c T locs cells slots) (hx : p.tables.exec = Jvm.exec) (hZ : Z.Warmed39 s.vm) {own C : String} {index nk : Nat} (hown : s.vm.findClass own = some m.cls) (w1 : (Cond.methodLink own index y).before a0 Z = true) (w2 : (Cond.privateMethod y).before a0 Z = true) (w5 : (Cond.instantiable y.cls nk).before a0 Z = true) (w6 : (Cond.instanceMethod y).before a0 Z = true) (w3 : (Cond.initialized y.cls).before a0 Z = true) (w4 : (Cond.code y bytes maxL ret).before a0 Z = true)
    (hy : y.cls ≠ "java/lang/invoke/MethodHandle" ∧ y.cls ≠ "java/lang/invoke/VarHandle") (eT : T.heap = h) (O : Ow K Z h n0 D) (N : Fr n0 locs) {q : Nat} (hck : ck D a t = some q) (hK : (K t).1 = .object C) {as' : List Value} (hM : Ct K l Z y (.code y bytes maxL ret) rm n0 D (.ref (n0 + a) :: as').toArray r D') {W kc ks : Nat} (hkc : rm.cells = kc) (hks : rm.slots = ks) (hf : rm.frames + 1 ≤ R.frames) (hl : W + (maxL + 11) + rm.locals ≤ R.locals)
    {g : JFrame} (hg : g.method = m) (hsize : g.locals.size = c.maxLocals) {rest : List Value} (hlen : ∀ sig, parseMethodDescriptor y.desc = some sig → as'.length = sig.parameters.length) (hs : g.stack = as'.reverse ++ .ref (n0 + a) :: rest) (hW : 2 * g.monitorRoom + (rest.map fun v => v.category).sum ≤ W) (hd : decode c.code g.pc = .ok (.invokevirtual index, 3)) (hc : cells + kc ≤ R.cells) (hsl : slots + ks ≤ R.slots) :
    ∃ T' h' L, Stand p l e R s m args below meth c T' L (cells + kc) (slots + ks) ∧ T'.heap = h' ∧ Ow K Z h' n0 D' ∧ Fr n0 L ∧ ∀ target, Steps p.tables e below (T'.setTop { g with pc := g.pc + 3, stack := r.toList ++ rest }) target → Steps p.tables e below (T.setTop g) target := by
  subst hkc hks
  obtain ⟨cC, kC, i1, i2, -, i4, -, -⟩ := Cond.instantiable_spec (mvT (args := args) hZ w5)
  have hpr := Cond.privateMethod_at (mvP (args := args) hZ w2)
  have hsel := selects_self_of_private i1 i2 (Bool.or_eq_false_iff.mp i4).1 hpr (mvT (args := args) hZ w6) hy
  obtain ⟨cq, qa, qb⟩ := (O.exaC hck hK).cell
  obtain ⟨_, _, ⟨T', L', k', n'⟩, -, X', ⟨Lc, hQ, hL, hk, hn⟩, st⟩ := X.privateBack hx (y := y) hown (mvT hZ w1) (mvT hZ w6) hsel hpr (mvT hZ w4) hy (backOf (W := W) (hM h [] O) hZ w4 w3 hf hl) hg hsize (Steps.refl _) (by rw [eT]; exact qa) qb (argsL := as') hlen hs hW hd (fun _ _ => ⟨rfl, eT, hc, hsl⟩)
  dsimp only [Pt.U, Pt.locs, Pt.cells, Pt.slots] at X' hL hk hn st hQ
  subst hL hk hn
  obtain ⟨rfl, N', O'⟩ := hQ
  exact ⟨T', _, _, X', rfl, O', N.app N', fun target k => st.trans k⟩
theorem cloneW (X : Stand p l e R s m args below meth c T locs cells slots) (hx : p.tables.exec = Jvm.exec) (hZ : Z.Warmed39 s.vm) {own ad : String} {index : Nat} {ty : FieldType} (hown : s.vm.findClass own = some m.cls) (had : ad = "[" ++ ty.toString)
    (w1 : (Cond.methodLink own index ⟨ad, "clone", "()Ljava/lang/Object;"⟩).before a0 Z = true) (w2 : (Cond.sameMethod ad "java/lang/Object" "clone" "()Ljava/lang/Object;").before a0 Z = true) (w3 : (Cond.native ⟨"java/lang/Object", "clone", "()Ljava/lang/Object;"⟩).before a0 Z = true)
    (w4 : (Cond.instanceMethod ⟨"java/lang/Object", "clone", "()Ljava/lang/Object;"⟩).before a0 Z = true) (w5 : (Cond.selects ad ⟨ad, "clone", "()Ljava/lang/Object;"⟩ ⟨"java/lang/Object", "clone", "()Ljava/lang/Object;"⟩).before a0 Z = true) (w6 : (Cond.castable ad "java/lang/Cloneable").before a0 Z = true)
    (eT : T.heap = h) (O : Ow K Z h n0 D) (hK : (K t).1 = .array ty) {cap : Nat} (hq : cA' D a t cap = some D') {g : JFrame} (hg : g.method = m) (hsize : g.locals.size = c.maxLocals) {rest : List Value} (hs : g.stack = .ref (n0 + a) :: rest) (hd : decode c.code g.pc = .ok (.invokevirtual index, 3))
    (hf : 1 ≤ R.frames) {W : Nat} (hW : 2 * g.monitorRoom + (rest.map fun v => v.category).sum ≤ W) (hl : W + 14 ≤ R.locals) (hc : cells + 1 ≤ R.cells) (hsl : slots + cap ≤ R.slots) :
    ∃ T' h', Stand p l e R s m args below meth c T' locs (cells + 1) (slots + cap) ∧ T'.heap = h' ∧ Ow K Z h' n0 D' ∧ ∀ target, Steps p.tables e below (T'.setTop { g with pc := g.pc + 3, stack := .ref (n0 + D.length) :: rest }) target → Steps p.tables e below (T.setTop g) target := by
  obtain ⟨vs, h1, h2, rfl⟩ := cA_e hq
  obtain ⟨E, cl, A, hsl', hlen, hfit⟩ := (O.2 a t vs h1).1 ty hK
  rw [← had] at E
  obtain ⟨c2, k, e1, e2, e3, e4, e5⟩ := E
  cases A.1.symm.trans e1
  obtain ⟨c1, cC, g1, g2, g3⟩ := Cond.castable_spec w6
  cases e2.symm.trans g1
  have hal : Z.vm.Alike T.vm := hZ.alike.trans X.warmed.alike
  have hsz : cl.slots.size = vs.length := by rw [hsl', sh_len]
  have hfc : ∀ i v, cl.slots[i]? = some v → Z.fitsSlot cl.cls .none i v = true := fun i v hv => by
    obtain ⟨-, k2, hk2, comp, hkind⟩ := A.2.1
    have e : Z.slotType? cl.cls .none i = some ty := by simp [State.slotType?, hk2, hkind]
    have hv' : ∃ w ∈ vs, sh n0 w = v := by
      rw [hsl'] at hv
      have hm : v ∈ vs.map (sh n0) := by
        have := Array.mem_of_getElem? hv
        simpa using this
      exact List.mem_map.mp hm
    obtain ⟨w, hw, rfl⟩ := hv'
    have hfw : fits ty (sh n0 w) = true := by
      have := hfit w hw
      cases w <;> first | exact this | (cases ty <;> first | (cases this; done) | rfl)
    simpa [State.fitsSlot, e] using hfw
  obtain ⟨vm', X', st⟩ := X.cloneArray hx hown (mv hZ w1) (mv hZ w2) (mv hZ w3) (mv hZ w4) (mv hZ w5) (a := n0 + a) (by rw [eT]; exact A.1) A.2.1.1 A.2.2 (by rw [hZ.alike.findClass]; exact e2) (by rw [hZ.alike.findClass]; exact g2) (by rw [hZ.alike.assignable]; exact g3)
    (fun i v hv => by have q := hfc i v hv; rw [← State.fitsSlot_setVm hal] at q; exact q) hg hsize hs hd hf (by omega) hc (by omega)
    (by obtain ⟨-, k2, hk2, comp, hkind⟩ := A.2.1; rw [hZ.alike.clonesLoader]; exact Vm.clonesLoader_of_array hk2 hkind)
  subst eT
  have hs0 := O.1
  refine ⟨_, _, X'.more (Nat.le_refl _) (by omega), rfl, O.push (h' := T.heap.push _) ⟨by simp, fun a c h => ?_⟩ (by simp) ⟨fun ty' hK' => ?_, fun C hK' => by rw [hK] at hK'; cases hK'⟩, by rw [← hs0]; exact st⟩
  · rw [Array.getElem?_push_lt (Array.getElem?_eq_some_iff.mp h).1]; exact (Array.getElem?_eq_getElem _).symm.trans h
  · cases hK.symm.trans hK'
    rw [← hs0, ← had]
    exact ⟨⟨_, k, Array.getElem?_push_size, e2, e3, rfl, e5⟩, _, ⟨Array.getElem?_push_size, ⟨fun _ z => (by cases z), A.2.1.2⟩, fun z => (by cases z)⟩, hsl', hlen, hfit⟩
theorem castW (X : Stand p l e R s m args below meth c T locs cells slots) (hx : p.tables.exec = Jvm.exec) (hZ : Z.Warmed39 s.vm) {own ad : String} {index : Nat} {ty : FieldType} (hown : s.vm.findClass own = some m.cls) (w : (Cond.classLink own index ad).before a0 Z = true) (had : ad = "[" ++ ty.toString) (eT : T.heap = h) (O : Ow K Z h n0 D) {q : Nat} (hck : ck D a t = some q) (hK : (K t).1 = .array ty)
    {g : JFrame} (hg : g.method = m) {rest : List Value} (hs : g.stack = .ref (n0 + a) :: rest) (hd : decode c.code g.pc = .ok (.checkcast index, 3)) : ∃ T', Stand p l e R s m args below meth c T' locs cells slots ∧ T'.heap = h ∧ ∀ target, Steps p.tables e below (T'.setTop { g with pc := g.pc + 3 }) target → Steps p.tables e below (T.setTop g) target := by
  obtain ⟨vs, h1⟩ := ck_e hck
  obtain ⟨E, -⟩ := (O.2 a t vs h1).1 ty hK
  rw [← had] at E
  exact castY X hx hZ hown w eT (Ins.self E) hg hs hd
end OwnLaws
def Kt1 : Kt := fun k => match k with
  | 0 => ((.array .int), [])
  | _ => (.int, [])
theorem lay1 {Z : State} {a0 : Array Value} (hw : ∀ d ∈ tables_1, d.before a0 Z = true) : Lay Kt1 Z a0 := by
  intro t C hC
  match t, hC with
  | 0, hC => cases hC
  | n + 1, hC => cases hC
theorem d1_0 : decode method_3_code 0 = .ok (.iload_n 0, 1) := by decide +kernel
theorem d1_1 : decode method_3_code 1 = .ok (.ifCond .ne 5, 3) := by decide +kernel
theorem d1_4 : decode method_3_code 4 = .ok (.iload_n 1, 1) := by decide +kernel
theorem d1_5 : decode method_3_code 5 = .ok (.ireturn, 1) := by decide +kernel
theorem d1_6 : decode method_3_code 6 = .ok (.iload_n 0, 1) := by decide +kernel
theorem d1_7 : decode method_3_code 7 = .ok (.iconst 1, 1) := by decide +kernel
theorem d1_8 : decode method_3_code 8 = .ok (.if_icmp .ne 5, 3) := by decide +kernel
theorem d1_11 : decode method_3_code 11 = .ok (.iload_n 2, 1) := by decide +kernel
theorem d1_12 : decode method_3_code 12 = .ok (.ireturn, 1) := by decide +kernel
theorem d1_13 : decode method_3_code 13 = .ok (.iload_n 3, 1) := by decide +kernel
theorem d1_14 : decode method_3_code 14 = .ok (.ireturn, 1) := by decide +kernel
theorem pn_1 : plainName "com/example/planar_drawing_kit/planardrawingkit/decomposition/CountingStartsPinLaw" = true := by first | (simp [plainName, overriddenIn]; done) | decide +kernel
def f1 (D : Hp) (i0 : Int32) (i1 : Int32) (i2 : Int32) (i3 : Int32) : Option (Int32 × Hp) :=
  if i0 = (0 : Int32) then (some (i1, D)) else (if i0 = (1 : Int32) then (some (i2, D)) else (some (i3, D)))
theorem ef_1 (m : MethodId) (i0 : Int32) (i1 : Int32) (i2 : Int32) (i3 : Int32) : entryFrame m #[(.int i0), (.int i1), (.int i2), (.int i3)] 4 = mkF m 0 #[.val (.int i0), .val (.int i1), .val (.int i2), .val (.int i3)] [] := by first | (simp [entryFrame, mkF, argsToLocals, Value.category]; done) | rfl
set_option maxRecDepth 65536 in
set_option maxHeartbeats 40000000 in
theorem ct1 {l : Launch} {Z : State} {a0 : Array Value} (hw : ∀ d ∈ tables_1, d.before a0 Z = true) {n0 : Nat} {D D' : Hp} {i0 : Int32} {i1 : Int32} {i2 : Int32} {i3 : Int32} {r : Int32} (hf : f1 D i0 i1 i2 i3 = some (r, D')) :
    Ct Kt1 l Z (⟨"com/example/planar_drawing_kit/planardrawingkit/decomposition/CountingStartsPinLaw", "keyOf", "(IIII)I"⟩ : MethodName) (.code (⟨"com/example/planar_drawing_kit/planardrawingkit/decomposition/CountingStartsPinLaw", "keyOf", "(IIII)I"⟩ : MethodName) method_3_code 4 (some .int)) ({ frames := 0, cells := 0, slots := 0, locals := 0 } : Room) n0 D #[(.int i0), (.int i1), (.int i2), (.int i3)] (some (.int r)) D' := by
  refine Ct.of (plainFor_of_name pn_1) ?_
  intro p e s m below meth c T0 h0 hC X0 e0 O0
  obtain ⟨hx, hZ, hby, hml, hown, hnm, hret, hlk⟩ := id hC
  have hml : c.maxLocals = 4 := hml
  have hown : s.vm.findClass "com/example/planar_drawing_kit/planardrawingkit/decomposition/CountingStartsPinLaw" = some m.cls := hown
  have hnm : meth.name = "keyOf" := hnm
  have N0 := Fr.nil n0
  refine Gl.on (fun t k => castTop (ef_1 m i0 i1 i2 i3) k) ?_
  rw [f1] at hf
  refine Gl.on (B := T0.setTop (mkF m 1 #[.val (.int i0), .val (.int i1), .val (.int i2), .val (.int i3)] [(.int i0)])) (fun t k => ?_) ?_
  · show Steps p.tables e below (T0.setTop (mkF m 0 #[.val (.int i0), .val (.int i1), .val (.int i2), .val (.int i3)] [])) _
    refine XS.iloadN X0.here hx rfl (hb hby d1_0) rfl ?_
    exact k
  by_cases hc1 : i0 = (0 : Int32)
  · rw [if_pos hc1] at hf
    refine Gl.on (B := T0.setTop (mkF m 5 #[.val (.int i0), .val (.int i1), .val (.int i2), .val (.int i3)] [(.int i1)])) (fun t k => ?_) ?_
    · show Steps p.tables e below (T0.setTop (mkF m 1 #[.val (.int i0), .val (.int i1), .val (.int i2), .val (.int i3)] [(.int i0)])) _
      refine XS.ifNo X0.here hx rfl (hb hby d1_1) rfl ((if0 _ _).trans (teq hc1).2) ?_
      show Steps p.tables e below (T0.setTop (mkF m 4 #[.val (.int i0), .val (.int i1), .val (.int i2), .val (.int i3)] [])) _
      refine XS.iloadN X0.here hx rfl (hb hby d1_4) rfl ?_
      exact k
    obtain ⟨rfl, rfl⟩ := own_inj hf
    exact Gl.outI X0 hx hlk hret (hb hby d1_5) ⟨rfl, N0, by rw [e0]; exact O0⟩ (by show _ ≤ 0; omega) (by show _ ≤ 0; omega)
  · rw [if_neg hc1] at hf
    refine Gl.on (B := T0.setTop (mkF m 8 #[.val (.int i0), .val (.int i1), .val (.int i2), .val (.int i3)] [(.int (1 : Int32)), (.int i0)])) (fun t k => ?_) ?_
    · show Steps p.tables e below (T0.setTop (mkF m 1 #[.val (.int i0), .val (.int i1), .val (.int i2), .val (.int i3)] [(.int i0)])) _
      refine XS.ifYes X0.here hx rfl (pc0 := 1) (pc' := 6) rfl (hb hby d1_1) rfl ((if0 _ _).trans (feq hc1).2) (by decide) (by decide) ?_
      show Steps p.tables e below (T0.setTop (mkF m 6 #[.val (.int i0), .val (.int i1), .val (.int i2), .val (.int i3)] [])) _
      refine XS.iloadN X0.here hx rfl (hb hby d1_6) rfl ?_
      show Steps p.tables e below (T0.setTop (mkF m 7 #[.val (.int i0), .val (.int i1), .val (.int i2), .val (.int i3)] [(.int i0)])) _
      refine XS.iconst X0.here hx rfl (hb hby d1_7) ?_
      exact k
    by_cases hc2 : i0 = (1 : Int32)
    · rw [if_pos hc2] at hf
      refine Gl.on (B := T0.setTop (mkF m 12 #[.val (.int i0), .val (.int i1), .val (.int i2), .val (.int i3)] [(.int i2)])) (fun t k => ?_) ?_
      · show Steps p.tables e below (T0.setTop (mkF m 8 #[.val (.int i0), .val (.int i1), .val (.int i2), .val (.int i3)] [(.int (1 : Int32)), (.int i0)])) _
        refine XS.icmpNo X0.here hx rfl (hb hby d1_8) rfl (teq hc2).2 ?_
        show Steps p.tables e below (T0.setTop (mkF m 11 #[.val (.int i0), .val (.int i1), .val (.int i2), .val (.int i3)] [])) _
        refine XS.iloadN X0.here hx rfl (hb hby d1_11) rfl ?_
        exact k
      obtain ⟨rfl, rfl⟩ := own_inj hf
      exact Gl.outI X0 hx hlk hret (hb hby d1_12) ⟨rfl, N0, by rw [e0]; exact O0⟩ (by show _ ≤ 0; omega) (by show _ ≤ 0; omega)
    · rw [if_neg hc2] at hf
      refine Gl.on (B := T0.setTop (mkF m 14 #[.val (.int i0), .val (.int i1), .val (.int i2), .val (.int i3)] [(.int i3)])) (fun t k => ?_) ?_
      · show Steps p.tables e below (T0.setTop (mkF m 8 #[.val (.int i0), .val (.int i1), .val (.int i2), .val (.int i3)] [(.int (1 : Int32)), (.int i0)])) _
        refine XS.icmpYes X0.here hx rfl (pc0 := 8) (pc' := 13) rfl (hb hby d1_8) rfl (feq hc2).2 (by decide) (by decide) ?_
        show Steps p.tables e below (T0.setTop (mkF m 13 #[.val (.int i0), .val (.int i1), .val (.int i2), .val (.int i3)] [])) _
        refine XS.iloadN X0.here hx rfl (hb hby d1_13) rfl ?_
        exact k
      obtain ⟨rfl, rfl⟩ := own_inj hf
      exact Gl.outI X0 hx hlk hret (hb hby d1_14) ⟨rfl, N0, by rw [e0]; exact O0⟩ (by show _ ≤ 0; omega) (by show _ ≤ 0; omega)
theorem d2_0 : decode prog_45_method_3_code 0 = .ok (.iload_n 2, 1) := by decide +kernel
theorem d2_1 : decode prog_45_method_3_code 1 = .ok (.iconst 1, 1) := by decide +kernel
theorem d2_2 : decode prog_45_method_3_code 2 = .ok (.iadd, 1) := by decide +kernel
theorem d2_3 : decode prog_45_method_3_code 3 = .ok (.newarray .int, 2) := by decide +kernel
theorem d2_5 : decode prog_45_method_3_code 5 = .ok (.astore_n 3, 1) := by decide +kernel
theorem d2_6 : decode prog_45_method_3_code 6 = .ok (.aload_n 0, 1) := by decide +kernel
theorem d2_7 : decode prog_45_method_3_code 7 = .ok (.astore 4, 2) := by decide +kernel
theorem d2_9 : decode prog_45_method_3_code 9 = .ok (.aload 4, 2) := by decide +kernel
theorem d2_11 : decode prog_45_method_3_code 11 = .ok (.arraylength, 1) := by decide +kernel
theorem d2_12 : decode prog_45_method_3_code 12 = .ok (.istore 5, 2) := by decide +kernel
theorem d2_14 : decode prog_45_method_3_code 14 = .ok (.iconst 0, 1) := by decide +kernel
theorem d2_15 : decode prog_45_method_3_code 15 = .ok (.istore 6, 2) := by decide +kernel
theorem d2_17 : decode prog_45_method_3_code 17 = .ok (.iload 6, 2) := by decide +kernel
theorem d2_19 : decode prog_45_method_3_code 19 = .ok (.iload 5, 2) := by decide +kernel
theorem d2_21 : decode prog_45_method_3_code 21 = .ok (.if_icmp .ge 28, 3) := by decide +kernel
theorem d2_24 : decode prog_45_method_3_code 24 = .ok (.aload 4, 2) := by decide +kernel
theorem d2_26 : decode prog_45_method_3_code 26 = .ok (.iload 6, 2) := by decide +kernel
theorem d2_28 : decode prog_45_method_3_code 28 = .ok (.iaload, 1) := by decide +kernel
theorem d2_29 : decode prog_45_method_3_code 29 = .ok (.istore 7, 2) := by decide +kernel
theorem d2_31 : decode prog_45_method_3_code 31 = .ok (.aload_n 3, 1) := by decide +kernel
theorem d2_32 : decode prog_45_method_3_code 32 = .ok (.aload_n 1, 1) := by decide +kernel
theorem d2_33 : decode prog_45_method_3_code 33 = .ok (.iload 7, 2) := by decide +kernel
theorem d2_35 : decode prog_45_method_3_code 35 = .ok (.iaload, 1) := by decide +kernel
theorem d2_36 : decode prog_45_method_3_code 36 = .ok (.iconst 1, 1) := by decide +kernel
theorem d2_37 : decode prog_45_method_3_code 37 = .ok (.iadd, 1) := by decide +kernel
theorem d2_38 : decode prog_45_method_3_code 38 = .ok (.dup2, 1) := by decide +kernel
theorem d2_39 : decode prog_45_method_3_code 39 = .ok (.iaload, 1) := by decide +kernel
theorem d2_40 : decode prog_45_method_3_code 40 = .ok (.iconst 1, 1) := by decide +kernel
theorem d2_41 : decode prog_45_method_3_code 41 = .ok (.iadd, 1) := by decide +kernel
theorem d2_42 : decode prog_45_method_3_code 42 = .ok (.iastore, 1) := by decide +kernel
theorem d2_43 : decode prog_45_method_3_code 43 = .ok (.iinc 6 1, 3) := by decide +kernel
theorem d2_46 : decode prog_45_method_3_code 46 = .ok (.goto (-29), 3) := by decide +kernel
theorem d2_49 : decode prog_45_method_3_code 49 = .ok (.iconst 0, 1) := by decide +kernel
theorem d2_50 : decode prog_45_method_3_code 50 = .ok (.istore 4, 2) := by decide +kernel
theorem d2_52 : decode prog_45_method_3_code 52 = .ok (.iload 4, 2) := by decide +kernel
theorem d2_54 : decode prog_45_method_3_code 54 = .ok (.iload_n 2, 1) := by decide +kernel
theorem d2_55 : decode prog_45_method_3_code 55 = .ok (.if_icmp .ge 22, 3) := by decide +kernel
theorem d2_58 : decode prog_45_method_3_code 58 = .ok (.aload_n 3, 1) := by decide +kernel
theorem d2_59 : decode prog_45_method_3_code 59 = .ok (.iload 4, 2) := by decide +kernel
theorem d2_61 : decode prog_45_method_3_code 61 = .ok (.iconst 1, 1) := by decide +kernel
theorem d2_62 : decode prog_45_method_3_code 62 = .ok (.iadd, 1) := by decide +kernel
theorem d2_63 : decode prog_45_method_3_code 63 = .ok (.dup2, 1) := by decide +kernel
theorem d2_64 : decode prog_45_method_3_code 64 = .ok (.iaload, 1) := by decide +kernel
theorem d2_65 : decode prog_45_method_3_code 65 = .ok (.aload_n 3, 1) := by decide +kernel
theorem d2_66 : decode prog_45_method_3_code 66 = .ok (.iload 4, 2) := by decide +kernel
theorem d2_68 : decode prog_45_method_3_code 68 = .ok (.iaload, 1) := by decide +kernel
theorem d2_69 : decode prog_45_method_3_code 69 = .ok (.iadd, 1) := by decide +kernel
theorem d2_70 : decode prog_45_method_3_code 70 = .ok (.iastore, 1) := by decide +kernel
theorem d2_71 : decode prog_45_method_3_code 71 = .ok (.iinc 4 1, 3) := by decide +kernel
theorem d2_74 : decode prog_45_method_3_code 74 = .ok (.goto (-22), 3) := by decide +kernel
theorem d2_77 : decode prog_45_method_3_code 77 = .ok (.aload_n 3, 1) := by decide +kernel
theorem d2_78 : decode prog_45_method_3_code 78 = .ok (.areturn, 1) := by decide +kernel
theorem pn_2 : plainName "com/example/planar_drawing_kit/planardrawingkit/decomposition/Counting" = true := by first | (simp [plainName, overriddenIn]; done) | decide +kernel
def b2_52 : Nat → Hp → Int32 → Nat → Int32 → Option (Nat × Hp)
  | 0, _, _, _, _ => none
  | fu + 1, D, i2, ob3, i4 =>
  if i4 < i2 then ((rI D ob3 0 (i4 + (1 : Int32))).bind fun x9 =>
  (rI D ob3 0 i4).bind fun x10 =>
  (wV D ob3 0 (i4 + (1 : Int32)) (.int (x9 + x10))).bind fun D11 =>
  b2_52 fu D11 i2 ob3 (i4 + (1 : Int32))) else (some (ob3, D))
set_option maxRecDepth 65536 in
set_option maxHeartbeats 40000000 in
theorem bt2_52 {p : Program} {l : Launch} {e : Env} {s : State} {m : MethodId} {args : Array Value} {below : List Frame} {meth : Method} {c : Code} {Z : State} {a0 : Array Value} {n0 : Nat} {D' : Hp} {r : Nat} (hw : ∀ d ∈ tables_1, d.before a0 Z = true) (hC : Cx p s m meth c Z prog_45_method_3_code 8 (some (.array .int)) "com/example/planar_drawing_kit/planardrawingkit/decomposition/Counting" "starts") (fu : Nat) : ∀ {T0 : State} {locs : List Loc} {cells slots : Nat} {h0 : Heap} {D : Hp} {ob0 : Nat} {ob1 : Nat} {i2 : Int32} {ob3 : Nat} {i4 : Int32} {i5 : Int32} {i6 : Int32} {s7 : Slot}, (Stand p l e ({ frames := 0, cells := 1, slots := 8, locals := 0 } : Room) s m args below meth c T0 locs cells slots) → (T0.heap = h0) → (Ow Kt1 Z h0 n0 D) → (Fr n0 locs) → (cells ≤ 1) → (slots ≤ 8) → (One s7) → (b2_52 fu D i2 ob3 i4 = some (r, D')) → Gl p e below s 1 8 (Qw Kt1 Z n0 (some (.ref (n0 + r))) D') (T0.setTop (mkF m 52 #[.val (.ref (n0 + ob0)), .val (.ref (n0 + ob1)), .val (.int i2), .val (.ref (n0 + ob3)), .val (.int i4), .val (.int i5), .val (.int i6), s7] [])) := by
  obtain ⟨hx, hZ, hby, hml, hown, hnm, hret, hlk⟩ := id hC
  have hml : c.maxLocals = 8 := hml
  induction fu with
  | zero => intro T0 locs cells slots h0 D ob0 ob1 i2 ob3 i4 i5 i6 s7 X0 e0 O0 N0 hcc hss hs7 hf; cases hf
  | succ fu ih =>
    intro T0 locs cells slots h0 D ob0 ob1 i2 ob3 i4 i5 i6 s7 X0 e0 O0 N0 hcc hss hs7 hf
    rw [b2_52] at hf
    refine Gl.on (B := T0.setTop (mkF m 55 #[.val (.ref (n0 + ob0)), .val (.ref (n0 + ob1)), .val (.int i2), .val (.ref (n0 + ob3)), .val (.int i4), .val (.int i5), .val (.int i6), s7] [(.int i2), (.int i4)])) (fun t k => ?_) ?_
    · show Steps p.tables e below (T0.setTop (mkF m 52 #[.val (.ref (n0 + ob0)), .val (.ref (n0 + ob1)), .val (.int i2), .val (.ref (n0 + ob3)), .val (.int i4), .val (.int i5), .val (.int i6), s7] [])) _
      refine XS.iload X0.here hx rfl (hb hby d2_52) rfl ?_
      show Steps p.tables e below (T0.setTop (mkF m 54 #[.val (.ref (n0 + ob0)), .val (.ref (n0 + ob1)), .val (.int i2), .val (.ref (n0 + ob3)), .val (.int i4), .val (.int i5), .val (.int i6), s7] [(.int i4)])) _
      refine XS.iloadN X0.here hx rfl (hb hby d2_54) rfl ?_
      exact k
    by_cases hc8 : i4 < i2
    · rw [if_pos hc8] at hf
      obtain ⟨x9, hx9, hf⟩ := own_bind hf
      obtain ⟨x10, hx10, hf⟩ := own_bind hf
      obtain ⟨D11, hq11, hf⟩ := own_bind hf
      obtain ⟨T11, h11, L11, X11, e11, O11, N11, st11⟩ := stIW X0 hx hZ e0 O0 N0 hq11 rfl (g := (mkF m 70 #[.val (.ref (n0 + ob0)), .val (.ref (n0 + ob1)), .val (.int i2), .val (.ref (n0 + ob3)), .val (.int i4), .val (.int i5), .val (.int i6), s7] [(.int (x9 + x10)), (.int (i4 + (1 : Int32))), (.ref (n0 + ob3))])) rfl rfl (hb hby d2_70)
      refine Gl.on (B := T11.setTop (mkF m 52 #[.val (.ref (n0 + ob0)), .val (.ref (n0 + ob1)), .val (.int i2), .val (.ref (n0 + ob3)), .val (.int (i4 + (1 : Int32))), .val (.int i5), .val (.int i6), s7] [])) (fun t k => ?_) ?_
      · show Steps p.tables e below (T0.setTop (mkF m 55 #[.val (.ref (n0 + ob0)), .val (.ref (n0 + ob1)), .val (.int i2), .val (.ref (n0 + ob3)), .val (.int i4), .val (.int i5), .val (.int i6), s7] [(.int i2), (.int i4)])) _
        refine XS.icmpNo X0.here hx rfl (hb hby d2_55) rfl (tlt hc8).2.1 ?_
        show Steps p.tables e below (T0.setTop (mkF m 58 #[.val (.ref (n0 + ob0)), .val (.ref (n0 + ob1)), .val (.int i2), .val (.ref (n0 + ob3)), .val (.int i4), .val (.int i5), .val (.int i6), s7] [])) _
        refine XS.aloadN X0.here hx rfl (hb hby d2_58) rfl rfl ?_
        show Steps p.tables e below (T0.setTop (mkF m 59 #[.val (.ref (n0 + ob0)), .val (.ref (n0 + ob1)), .val (.int i2), .val (.ref (n0 + ob3)), .val (.int i4), .val (.int i5), .val (.int i6), s7] [(.ref (n0 + ob3))])) _
        refine XS.iload X0.here hx rfl (hb hby d2_59) rfl ?_
        show Steps p.tables e below (T0.setTop (mkF m 61 #[.val (.ref (n0 + ob0)), .val (.ref (n0 + ob1)), .val (.int i2), .val (.ref (n0 + ob3)), .val (.int i4), .val (.int i5), .val (.int i6), s7] [(.int i4), (.ref (n0 + ob3))])) _
        refine XS.iconst X0.here hx rfl (hb hby d2_61) ?_
        show Steps p.tables e below (T0.setTop (mkF m 62 #[.val (.ref (n0 + ob0)), .val (.ref (n0 + ob1)), .val (.int i2), .val (.ref (n0 + ob3)), .val (.int i4), .val (.int i5), .val (.int i6), s7] [(.int (1 : Int32)), (.int i4), (.ref (n0 + ob3))])) _
        refine XS.iadd X0.here hx rfl (hb hby d2_62) rfl ?_
        show Steps p.tables e below (T0.setTop (mkF m 63 #[.val (.ref (n0 + ob0)), .val (.ref (n0 + ob1)), .val (.int i2), .val (.ref (n0 + ob3)), .val (.int i4), .val (.int i5), .val (.int i6), s7] [(.int (i4 + (1 : Int32))), (.ref (n0 + ob3))])) _
        refine XT.dup2 X0.here hx rfl (hb hby d2_63) rfl rfl rfl ?_
        show Steps p.tables e below (T0.setTop (mkF m 64 #[.val (.ref (n0 + ob0)), .val (.ref (n0 + ob1)), .val (.int i2), .val (.ref (n0 + ob3)), .val (.int i4), .val (.int i5), .val (.int i6), s7] [(.int (i4 + (1 : Int32))), (.ref (n0 + ob3)), (.int (i4 + (1 : Int32))), (.ref (n0 + ob3))])) _
        refine ldW X0 hx hZ e0 O0 hx9 rfl (g := (mkF m 64 #[.val (.ref (n0 + ob0)), .val (.ref (n0 + ob1)), .val (.int i2), .val (.ref (n0 + ob3)), .val (.int i4), .val (.int i5), .val (.int i6), s7] [(.int (i4 + (1 : Int32))), (.ref (n0 + ob3)), (.int (i4 + (1 : Int32))), (.ref (n0 + ob3))])) rfl rfl (hb hby d2_64) _ ?_
        show Steps p.tables e below (T0.setTop (mkF m 65 #[.val (.ref (n0 + ob0)), .val (.ref (n0 + ob1)), .val (.int i2), .val (.ref (n0 + ob3)), .val (.int i4), .val (.int i5), .val (.int i6), s7] [(.int x9), (.int (i4 + (1 : Int32))), (.ref (n0 + ob3))])) _
        refine XS.aloadN X0.here hx rfl (hb hby d2_65) rfl rfl ?_
        show Steps p.tables e below (T0.setTop (mkF m 66 #[.val (.ref (n0 + ob0)), .val (.ref (n0 + ob1)), .val (.int i2), .val (.ref (n0 + ob3)), .val (.int i4), .val (.int i5), .val (.int i6), s7] [(.ref (n0 + ob3)), (.int x9), (.int (i4 + (1 : Int32))), (.ref (n0 + ob3))])) _
        refine XS.iload X0.here hx rfl (hb hby d2_66) rfl ?_
        show Steps p.tables e below (T0.setTop (mkF m 68 #[.val (.ref (n0 + ob0)), .val (.ref (n0 + ob1)), .val (.int i2), .val (.ref (n0 + ob3)), .val (.int i4), .val (.int i5), .val (.int i6), s7] [(.int i4), (.ref (n0 + ob3)), (.int x9), (.int (i4 + (1 : Int32))), (.ref (n0 + ob3))])) _
        refine ldW X0 hx hZ e0 O0 hx10 rfl (g := (mkF m 68 #[.val (.ref (n0 + ob0)), .val (.ref (n0 + ob1)), .val (.int i2), .val (.ref (n0 + ob3)), .val (.int i4), .val (.int i5), .val (.int i6), s7] [(.int i4), (.ref (n0 + ob3)), (.int x9), (.int (i4 + (1 : Int32))), (.ref (n0 + ob3))])) rfl rfl (hb hby d2_68) _ ?_
        show Steps p.tables e below (T0.setTop (mkF m 69 #[.val (.ref (n0 + ob0)), .val (.ref (n0 + ob1)), .val (.int i2), .val (.ref (n0 + ob3)), .val (.int i4), .val (.int i5), .val (.int i6), s7] [(.int x10), (.int x9), (.int (i4 + (1 : Int32))), (.ref (n0 + ob3))])) _
        refine XS.iadd X0.here hx rfl (hb hby d2_69) rfl ?_
        show Steps p.tables e below (T0.setTop (mkF m 70 #[.val (.ref (n0 + ob0)), .val (.ref (n0 + ob1)), .val (.int i2), .val (.ref (n0 + ob3)), .val (.int i4), .val (.int i5), .val (.int i6), s7] [(.int (x9 + x10)), (.int (i4 + (1 : Int32))), (.ref (n0 + ob3))])) _
        refine st11 _ ?_
        show Steps p.tables e below (T11.setTop (mkF m 71 #[.val (.ref (n0 + ob0)), .val (.ref (n0 + ob1)), .val (.int i2), .val (.ref (n0 + ob3)), .val (.int i4), .val (.int i5), .val (.int i6), s7] [])) _
        refine XS.iinc X11.here hx rfl (hb hby d2_71) rfl (l' := #[.val (.ref (n0 + ob0)), .val (.ref (n0 + ob1)), .val (.int i2), .val (.ref (n0 + ob3)), .val (.int (i4 + (1 : Int32))), .val (.int i5), .val (.int i6), s7]) rfl ?_
        show Steps p.tables e below (T11.setTop (mkF m 74 #[.val (.ref (n0 + ob0)), .val (.ref (n0 + ob1)), .val (.int i2), .val (.ref (n0 + ob3)), .val (.int (i4 + (1 : Int32))), .val (.int i5), .val (.int i6), s7] [])) _
        refine XS.goto X11.here hx rfl (pc0 := 74) (pc' := 52) rfl (hb hby d2_74) (by decide) (by decide) ?_
        exact k
      exact ih X11 e11 O11 N11 (by omega) (by omega) hs7 hf
    · rw [if_neg hc8] at hf
      refine Gl.on (B := T0.setTop (mkF m 78 #[.val (.ref (n0 + ob0)), .val (.ref (n0 + ob1)), .val (.int i2), .val (.ref (n0 + ob3)), .val (.int i4), .val (.int i5), .val (.int i6), s7] [(.ref (n0 + ob3))])) (fun t k => ?_) ?_
      · show Steps p.tables e below (T0.setTop (mkF m 55 #[.val (.ref (n0 + ob0)), .val (.ref (n0 + ob1)), .val (.int i2), .val (.ref (n0 + ob3)), .val (.int i4), .val (.int i5), .val (.int i6), s7] [(.int i2), (.int i4)])) _
        refine XS.icmpYes X0.here hx rfl (pc0 := 55) (pc' := 77) rfl (hb hby d2_55) rfl (flt hc8).2.1 (by decide) (by decide) ?_
        show Steps p.tables e below (T0.setTop (mkF m 77 #[.val (.ref (n0 + ob0)), .val (.ref (n0 + ob1)), .val (.int i2), .val (.ref (n0 + ob3)), .val (.int i4), .val (.int i5), .val (.int i6), s7] [])) _
        refine XS.aloadN X0.here hx rfl (hb hby d2_77) rfl rfl ?_
        exact k
      obtain ⟨rfl, rfl⟩ := own_inj hf
      exact Gl.outR X0 hx hlk hret rfl (hb hby d2_78) ⟨rfl, N0, by rw [e0]; exact O0⟩ (by show _ ≤ 1; omega) (by show _ ≤ 8; omega)
def b2_17 : Nat → Hp → Nat → Int32 → Nat → Nat → Int32 → Int32 → Option (Nat × Hp)
  | 0, _, _, _, _, _, _, _ => none
  | fu + 1, D, ob1, i2, ob3, ob4, i5, i6 =>
  if i6 < i5 then ((rI D ob4 0 i6).bind fun x4 =>
  (rI D ob1 0 x4).bind fun x5 =>
  (rI D ob3 0 (x5 + (1 : Int32))).bind fun x6 =>
  (wV D ob3 0 (x5 + (1 : Int32)) (.int (x6 + (1 : Int32)))).bind fun D7 =>
  b2_17 fu D7 ob1 i2 ob3 ob4 i5 (i6 + (1 : Int32))) else (b2_52 12 D i2 ob3 (0 : Int32))
set_option maxRecDepth 65536 in
set_option maxHeartbeats 40000000 in
theorem bt2_17 {p : Program} {l : Launch} {e : Env} {s : State} {m : MethodId} {args : Array Value} {below : List Frame} {meth : Method} {c : Code} {Z : State} {a0 : Array Value} {n0 : Nat} {D' : Hp} {r : Nat} (hw : ∀ d ∈ tables_1, d.before a0 Z = true) (hC : Cx p s m meth c Z prog_45_method_3_code 8 (some (.array .int)) "com/example/planar_drawing_kit/planardrawingkit/decomposition/Counting" "starts") (fu : Nat) : ∀ {T0 : State} {locs : List Loc} {cells slots : Nat} {h0 : Heap} {D : Hp} {ob0 : Nat} {ob1 : Nat} {i2 : Int32} {ob3 : Nat} {ob4 : Nat} {i5 : Int32} {i6 : Int32} {s7 : Slot}, (Stand p l e ({ frames := 0, cells := 1, slots := 8, locals := 0 } : Room) s m args below meth c T0 locs cells slots) → (T0.heap = h0) → (Ow Kt1 Z h0 n0 D) → (Fr n0 locs) → (cells ≤ 1) → (slots ≤ 8) → (One s7) → (b2_17 fu D ob1 i2 ob3 ob4 i5 i6 = some (r, D')) → Gl p e below s 1 8 (Qw Kt1 Z n0 (some (.ref (n0 + r))) D') (T0.setTop (mkF m 17 #[.val (.ref (n0 + ob0)), .val (.ref (n0 + ob1)), .val (.int i2), .val (.ref (n0 + ob3)), .val (.ref (n0 + ob4)), .val (.int i5), .val (.int i6), s7] [])) := by
  obtain ⟨hx, hZ, hby, hml, hown, hnm, hret, hlk⟩ := id hC
  have hml : c.maxLocals = 8 := hml
  induction fu with
  | zero => intro T0 locs cells slots h0 D ob0 ob1 i2 ob3 ob4 i5 i6 s7 X0 e0 O0 N0 hcc hss hs7 hf; cases hf
  | succ fu ih =>
    intro T0 locs cells slots h0 D ob0 ob1 i2 ob3 ob4 i5 i6 s7 X0 e0 O0 N0 hcc hss hs7 hf
    rw [b2_17] at hf
    refine Gl.on (B := T0.setTop (mkF m 21 #[.val (.ref (n0 + ob0)), .val (.ref (n0 + ob1)), .val (.int i2), .val (.ref (n0 + ob3)), .val (.ref (n0 + ob4)), .val (.int i5), .val (.int i6), s7] [(.int i5), (.int i6)])) (fun t k => ?_) ?_
    · show Steps p.tables e below (T0.setTop (mkF m 17 #[.val (.ref (n0 + ob0)), .val (.ref (n0 + ob1)), .val (.int i2), .val (.ref (n0 + ob3)), .val (.ref (n0 + ob4)), .val (.int i5), .val (.int i6), s7] [])) _
      refine XS.iload X0.here hx rfl (hb hby d2_17) rfl ?_
      show Steps p.tables e below (T0.setTop (mkF m 19 #[.val (.ref (n0 + ob0)), .val (.ref (n0 + ob1)), .val (.int i2), .val (.ref (n0 + ob3)), .val (.ref (n0 + ob4)), .val (.int i5), .val (.int i6), s7] [(.int i6)])) _
      refine XS.iload X0.here hx rfl (hb hby d2_19) rfl ?_
      exact k
    by_cases hc3 : i6 < i5
    · rw [if_pos hc3] at hf
      obtain ⟨x4, hx4, hf⟩ := own_bind hf
      obtain ⟨x5, hx5, hf⟩ := own_bind hf
      obtain ⟨x6, hx6, hf⟩ := own_bind hf
      obtain ⟨D7, hq7, hf⟩ := own_bind hf
      obtain ⟨T7, h7, L7, X7, e7, O7, N7, st7⟩ := stIW X0 hx hZ e0 O0 N0 hq7 rfl (g := (mkF m 42 #[.val (.ref (n0 + ob0)), .val (.ref (n0 + ob1)), .val (.int i2), .val (.ref (n0 + ob3)), .val (.ref (n0 + ob4)), .val (.int i5), .val (.int i6), .val (.int x4)] [(.int (x6 + (1 : Int32))), (.int (x5 + (1 : Int32))), (.ref (n0 + ob3))])) rfl rfl (hb hby d2_42)
      refine Gl.on (B := T7.setTop (mkF m 17 #[.val (.ref (n0 + ob0)), .val (.ref (n0 + ob1)), .val (.int i2), .val (.ref (n0 + ob3)), .val (.ref (n0 + ob4)), .val (.int i5), .val (.int (i6 + (1 : Int32))), .val (.int x4)] [])) (fun t k => ?_) ?_
      · show Steps p.tables e below (T0.setTop (mkF m 21 #[.val (.ref (n0 + ob0)), .val (.ref (n0 + ob1)), .val (.int i2), .val (.ref (n0 + ob3)), .val (.ref (n0 + ob4)), .val (.int i5), .val (.int i6), s7] [(.int i5), (.int i6)])) _
        refine XS.icmpNo X0.here hx rfl (hb hby d2_21) rfl (tlt hc3).2.1 ?_
        show Steps p.tables e below (T0.setTop (mkF m 24 #[.val (.ref (n0 + ob0)), .val (.ref (n0 + ob1)), .val (.int i2), .val (.ref (n0 + ob3)), .val (.ref (n0 + ob4)), .val (.int i5), .val (.int i6), s7] [])) _
        refine XS.aload X0.here hx rfl (hb hby d2_24) rfl rfl ?_
        show Steps p.tables e below (T0.setTop (mkF m 26 #[.val (.ref (n0 + ob0)), .val (.ref (n0 + ob1)), .val (.int i2), .val (.ref (n0 + ob3)), .val (.ref (n0 + ob4)), .val (.int i5), .val (.int i6), s7] [(.ref (n0 + ob4))])) _
        refine XS.iload X0.here hx rfl (hb hby d2_26) rfl ?_
        show Steps p.tables e below (T0.setTop (mkF m 28 #[.val (.ref (n0 + ob0)), .val (.ref (n0 + ob1)), .val (.int i2), .val (.ref (n0 + ob3)), .val (.ref (n0 + ob4)), .val (.int i5), .val (.int i6), s7] [(.int i6), (.ref (n0 + ob4))])) _
        refine ldW X0 hx hZ e0 O0 hx4 rfl (g := (mkF m 28 #[.val (.ref (n0 + ob0)), .val (.ref (n0 + ob1)), .val (.int i2), .val (.ref (n0 + ob3)), .val (.ref (n0 + ob4)), .val (.int i5), .val (.int i6), s7] [(.int i6), (.ref (n0 + ob4))])) rfl rfl (hb hby d2_28) _ ?_
        show Steps p.tables e below (T0.setTop (mkF m 29 #[.val (.ref (n0 + ob0)), .val (.ref (n0 + ob1)), .val (.int i2), .val (.ref (n0 + ob3)), .val (.ref (n0 + ob4)), .val (.int i5), .val (.int i6), s7] [(.int x4)])) _
        refine XS.istore X0.here hx rfl (hb hby d2_29) rfl (l' := #[.val (.ref (n0 + ob0)), .val (.ref (n0 + ob1)), .val (.int i2), .val (.ref (n0 + ob3)), .val (.ref (n0 + ob4)), .val (.int i5), .val (.int i6), .val (.int x4)]) (XS.store1 (o := s7) rfl hs7 rfl) ?_
        show Steps p.tables e below (T0.setTop (mkF m 31 #[.val (.ref (n0 + ob0)), .val (.ref (n0 + ob1)), .val (.int i2), .val (.ref (n0 + ob3)), .val (.ref (n0 + ob4)), .val (.int i5), .val (.int i6), .val (.int x4)] [])) _
        refine XS.aloadN X0.here hx rfl (hb hby d2_31) rfl rfl ?_
        show Steps p.tables e below (T0.setTop (mkF m 32 #[.val (.ref (n0 + ob0)), .val (.ref (n0 + ob1)), .val (.int i2), .val (.ref (n0 + ob3)), .val (.ref (n0 + ob4)), .val (.int i5), .val (.int i6), .val (.int x4)] [(.ref (n0 + ob3))])) _
        refine XS.aloadN X0.here hx rfl (hb hby d2_32) rfl rfl ?_
        show Steps p.tables e below (T0.setTop (mkF m 33 #[.val (.ref (n0 + ob0)), .val (.ref (n0 + ob1)), .val (.int i2), .val (.ref (n0 + ob3)), .val (.ref (n0 + ob4)), .val (.int i5), .val (.int i6), .val (.int x4)] [(.ref (n0 + ob1)), (.ref (n0 + ob3))])) _
        refine XS.iload X0.here hx rfl (hb hby d2_33) rfl ?_
        show Steps p.tables e below (T0.setTop (mkF m 35 #[.val (.ref (n0 + ob0)), .val (.ref (n0 + ob1)), .val (.int i2), .val (.ref (n0 + ob3)), .val (.ref (n0 + ob4)), .val (.int i5), .val (.int i6), .val (.int x4)] [(.int x4), (.ref (n0 + ob1)), (.ref (n0 + ob3))])) _
        refine ldW X0 hx hZ e0 O0 hx5 rfl (g := (mkF m 35 #[.val (.ref (n0 + ob0)), .val (.ref (n0 + ob1)), .val (.int i2), .val (.ref (n0 + ob3)), .val (.ref (n0 + ob4)), .val (.int i5), .val (.int i6), .val (.int x4)] [(.int x4), (.ref (n0 + ob1)), (.ref (n0 + ob3))])) rfl rfl (hb hby d2_35) _ ?_
        show Steps p.tables e below (T0.setTop (mkF m 36 #[.val (.ref (n0 + ob0)), .val (.ref (n0 + ob1)), .val (.int i2), .val (.ref (n0 + ob3)), .val (.ref (n0 + ob4)), .val (.int i5), .val (.int i6), .val (.int x4)] [(.int x5), (.ref (n0 + ob3))])) _
        refine XS.iconst X0.here hx rfl (hb hby d2_36) ?_
        show Steps p.tables e below (T0.setTop (mkF m 37 #[.val (.ref (n0 + ob0)), .val (.ref (n0 + ob1)), .val (.int i2), .val (.ref (n0 + ob3)), .val (.ref (n0 + ob4)), .val (.int i5), .val (.int i6), .val (.int x4)] [(.int (1 : Int32)), (.int x5), (.ref (n0 + ob3))])) _
        refine XS.iadd X0.here hx rfl (hb hby d2_37) rfl ?_
        show Steps p.tables e below (T0.setTop (mkF m 38 #[.val (.ref (n0 + ob0)), .val (.ref (n0 + ob1)), .val (.int i2), .val (.ref (n0 + ob3)), .val (.ref (n0 + ob4)), .val (.int i5), .val (.int i6), .val (.int x4)] [(.int (x5 + (1 : Int32))), (.ref (n0 + ob3))])) _
        refine XT.dup2 X0.here hx rfl (hb hby d2_38) rfl rfl rfl ?_
        show Steps p.tables e below (T0.setTop (mkF m 39 #[.val (.ref (n0 + ob0)), .val (.ref (n0 + ob1)), .val (.int i2), .val (.ref (n0 + ob3)), .val (.ref (n0 + ob4)), .val (.int i5), .val (.int i6), .val (.int x4)] [(.int (x5 + (1 : Int32))), (.ref (n0 + ob3)), (.int (x5 + (1 : Int32))), (.ref (n0 + ob3))])) _
        refine ldW X0 hx hZ e0 O0 hx6 rfl (g := (mkF m 39 #[.val (.ref (n0 + ob0)), .val (.ref (n0 + ob1)), .val (.int i2), .val (.ref (n0 + ob3)), .val (.ref (n0 + ob4)), .val (.int i5), .val (.int i6), .val (.int x4)] [(.int (x5 + (1 : Int32))), (.ref (n0 + ob3)), (.int (x5 + (1 : Int32))), (.ref (n0 + ob3))])) rfl rfl (hb hby d2_39) _ ?_
        show Steps p.tables e below (T0.setTop (mkF m 40 #[.val (.ref (n0 + ob0)), .val (.ref (n0 + ob1)), .val (.int i2), .val (.ref (n0 + ob3)), .val (.ref (n0 + ob4)), .val (.int i5), .val (.int i6), .val (.int x4)] [(.int x6), (.int (x5 + (1 : Int32))), (.ref (n0 + ob3))])) _
        refine XS.iconst X0.here hx rfl (hb hby d2_40) ?_
        show Steps p.tables e below (T0.setTop (mkF m 41 #[.val (.ref (n0 + ob0)), .val (.ref (n0 + ob1)), .val (.int i2), .val (.ref (n0 + ob3)), .val (.ref (n0 + ob4)), .val (.int i5), .val (.int i6), .val (.int x4)] [(.int (1 : Int32)), (.int x6), (.int (x5 + (1 : Int32))), (.ref (n0 + ob3))])) _
        refine XS.iadd X0.here hx rfl (hb hby d2_41) rfl ?_
        show Steps p.tables e below (T0.setTop (mkF m 42 #[.val (.ref (n0 + ob0)), .val (.ref (n0 + ob1)), .val (.int i2), .val (.ref (n0 + ob3)), .val (.ref (n0 + ob4)), .val (.int i5), .val (.int i6), .val (.int x4)] [(.int (x6 + (1 : Int32))), (.int (x5 + (1 : Int32))), (.ref (n0 + ob3))])) _
        refine st7 _ ?_
        show Steps p.tables e below (T7.setTop (mkF m 43 #[.val (.ref (n0 + ob0)), .val (.ref (n0 + ob1)), .val (.int i2), .val (.ref (n0 + ob3)), .val (.ref (n0 + ob4)), .val (.int i5), .val (.int i6), .val (.int x4)] [])) _
        refine XS.iinc X7.here hx rfl (hb hby d2_43) rfl (l' := #[.val (.ref (n0 + ob0)), .val (.ref (n0 + ob1)), .val (.int i2), .val (.ref (n0 + ob3)), .val (.ref (n0 + ob4)), .val (.int i5), .val (.int (i6 + (1 : Int32))), .val (.int x4)]) rfl ?_
        show Steps p.tables e below (T7.setTop (mkF m 46 #[.val (.ref (n0 + ob0)), .val (.ref (n0 + ob1)), .val (.int i2), .val (.ref (n0 + ob3)), .val (.ref (n0 + ob4)), .val (.int i5), .val (.int (i6 + (1 : Int32))), .val (.int x4)] [])) _
        refine XS.goto X7.here hx rfl (pc0 := 46) (pc' := 17) rfl (hb hby d2_46) (by decide) (by decide) ?_
        exact k
      exact ih X7 e7 O7 N7 (by omega) (by omega) (One.val rfl) hf
    · rw [if_neg hc3] at hf
      refine Gl.on (B := T0.setTop (mkF m 52 #[.val (.ref (n0 + ob0)), .val (.ref (n0 + ob1)), .val (.int i2), .val (.ref (n0 + ob3)), .val (.int (0 : Int32)), .val (.int i5), .val (.int i6), s7] [])) (fun t k => ?_) ?_
      · show Steps p.tables e below (T0.setTop (mkF m 21 #[.val (.ref (n0 + ob0)), .val (.ref (n0 + ob1)), .val (.int i2), .val (.ref (n0 + ob3)), .val (.ref (n0 + ob4)), .val (.int i5), .val (.int i6), s7] [(.int i5), (.int i6)])) _
        refine XS.icmpYes X0.here hx rfl (pc0 := 21) (pc' := 49) rfl (hb hby d2_21) rfl (flt hc3).2.1 (by decide) (by decide) ?_
        show Steps p.tables e below (T0.setTop (mkF m 49 #[.val (.ref (n0 + ob0)), .val (.ref (n0 + ob1)), .val (.int i2), .val (.ref (n0 + ob3)), .val (.ref (n0 + ob4)), .val (.int i5), .val (.int i6), s7] [])) _
        refine XS.iconst X0.here hx rfl (hb hby d2_49) ?_
        show Steps p.tables e below (T0.setTop (mkF m 50 #[.val (.ref (n0 + ob0)), .val (.ref (n0 + ob1)), .val (.int i2), .val (.ref (n0 + ob3)), .val (.ref (n0 + ob4)), .val (.int i5), .val (.int i6), s7] [(.int (0 : Int32))])) _
        refine XS.istore X0.here hx rfl (hb hby d2_50) rfl (l' := #[.val (.ref (n0 + ob0)), .val (.ref (n0 + ob1)), .val (.int i2), .val (.ref (n0 + ob3)), .val (.int (0 : Int32)), .val (.int i5), .val (.int i6), s7]) rfl ?_
        exact k
      exact bt2_52 hw hC 12 X0 e0 O0 N0 (by omega) (by omega) hs7 hf
def f2 (D : Hp) (ob0 : Nat) (ob1 : Nat) (i2 : Int32) : Option (Nat × Hp) :=
  own_let (D.length) fun a1 => (nA D 0 (i2 + (1 : Int32)) 8 (.int (0 : Int32))).bind fun D1 =>
  (lA D1 ob0 0).bind fun x2 =>
  b2_17 12 D1 ob1 i2 a1 ob0 x2 (0 : Int32)
theorem ef_2 (m : MethodId) (n0 : Nat) (ob0 : Nat) (ob1 : Nat) (i2 : Int32) : entryFrame m #[(.ref (n0 + ob0)), (.ref (n0 + ob1)), (.int i2)] 8 = mkF m 0 #[.val (.ref (n0 + ob0)), .val (.ref (n0 + ob1)), .val (.int i2), .unset, .unset, .unset, .unset, .unset] [] := by first | (simp [entryFrame, mkF, argsToLocals, Value.category]; done) | rfl
set_option maxRecDepth 65536 in
set_option maxHeartbeats 40000000 in
theorem ct2 {l : Launch} {Z : State} {a0 : Array Value} (hw : ∀ d ∈ tables_1, d.before a0 Z = true) {n0 : Nat} {D D' : Hp} {ob0 : Nat} {ob1 : Nat} {i2 : Int32} {r : Nat} (hf : f2 D ob0 ob1 i2 = some (r, D')) :
    Ct Kt1 l Z (⟨"com/example/planar_drawing_kit/planardrawingkit/decomposition/Counting", "starts", "([I[II)[I"⟩ : MethodName) (.code (⟨"com/example/planar_drawing_kit/planardrawingkit/decomposition/Counting", "starts", "([I[II)[I"⟩ : MethodName) prog_45_method_3_code 8 (some (.array .int))) ({ frames := 0, cells := 1, slots := 8, locals := 0 } : Room) n0 D #[(.ref (n0 + ob0)), (.ref (n0 + ob1)), (.int i2)] (some (.ref (n0 + r))) D' := by
  refine Ct.of (plainFor_of_name pn_2) ?_
  intro p e s m below meth c T0 h0 hC X0 e0 O0
  obtain ⟨hx, hZ, hby, hml, hown, hnm, hret, hlk⟩ := id hC
  have hml : c.maxLocals = 8 := hml
  have hown : s.vm.findClass "com/example/planar_drawing_kit/planardrawingkit/decomposition/Counting" = some m.cls := hown
  have hnm : meth.name = "starts" := hnm
  have N0 := Fr.nil n0
  refine Gl.on (fun t k => castTop (ef_2 m n0 ob0 ob1 i2) k) ?_
  rw [f2] at hf
  obtain ⟨a1, ha1, hf⟩ := own_letE hf
  obtain ⟨D1, hD1, hf⟩ := own_bind hf
  obtain ⟨T1, h1, X1, e1, O1, st1⟩ := newAW X0 hx hZ (aty := .int) (hw _ (List.mem_of_getElem? (i := 1) rfl)) e0 O0 rfl rfl hD1 (g := (mkF m 3 #[.val (.ref (n0 + ob0)), .val (.ref (n0 + ob1)), .val (.int i2), .unset, .unset, .unset, .unset, .unset] [(.int (i2 + (1 : Int32)))])) rfl (hb hby d2_3) rfl (by decide) (by show _ + 1 ≤ 1; omega) (by show _ + 8 ≤ 8; omega)
  rw [ha1] at st1
  obtain ⟨x2, hx2, hf⟩ := own_bind hf
  refine Gl.on (B := T1.setTop (mkF m 17 #[.val (.ref (n0 + ob0)), .val (.ref (n0 + ob1)), .val (.int i2), .val (.ref (n0 + a1)), .val (.ref (n0 + ob0)), .val (.int x2), .val (.int (0 : Int32)), .unset] [])) (fun t k => ?_) ?_
  · show Steps p.tables e below (T0.setTop (mkF m 0 #[.val (.ref (n0 + ob0)), .val (.ref (n0 + ob1)), .val (.int i2), .unset, .unset, .unset, .unset, .unset] [])) _
    refine XS.iloadN X0.here hx rfl (hb hby d2_0) rfl ?_
    show Steps p.tables e below (T0.setTop (mkF m 1 #[.val (.ref (n0 + ob0)), .val (.ref (n0 + ob1)), .val (.int i2), .unset, .unset, .unset, .unset, .unset] [(.int i2)])) _
    refine XS.iconst X0.here hx rfl (hb hby d2_1) ?_
    show Steps p.tables e below (T0.setTop (mkF m 2 #[.val (.ref (n0 + ob0)), .val (.ref (n0 + ob1)), .val (.int i2), .unset, .unset, .unset, .unset, .unset] [(.int (1 : Int32)), (.int i2)])) _
    refine XS.iadd X0.here hx rfl (hb hby d2_2) rfl ?_
    show Steps p.tables e below (T0.setTop (mkF m 3 #[.val (.ref (n0 + ob0)), .val (.ref (n0 + ob1)), .val (.int i2), .unset, .unset, .unset, .unset, .unset] [(.int (i2 + (1 : Int32)))])) _
    refine st1 _ ?_
    show Steps p.tables e below (T1.setTop (mkF m 5 #[.val (.ref (n0 + ob0)), .val (.ref (n0 + ob1)), .val (.int i2), .unset, .unset, .unset, .unset, .unset] [(.ref (n0 + a1))])) _
    refine XS.astoreN X1.here hx rfl (hb hby d2_5) rfl rfl (l' := #[.val (.ref (n0 + ob0)), .val (.ref (n0 + ob1)), .val (.int i2), .val (.ref (n0 + a1)), .unset, .unset, .unset, .unset]) rfl ?_
    show Steps p.tables e below (T1.setTop (mkF m 6 #[.val (.ref (n0 + ob0)), .val (.ref (n0 + ob1)), .val (.int i2), .val (.ref (n0 + a1)), .unset, .unset, .unset, .unset] [])) _
    refine XS.aloadN X1.here hx rfl (hb hby d2_6) rfl rfl ?_
    show Steps p.tables e below (T1.setTop (mkF m 7 #[.val (.ref (n0 + ob0)), .val (.ref (n0 + ob1)), .val (.int i2), .val (.ref (n0 + a1)), .unset, .unset, .unset, .unset] [(.ref (n0 + ob0))])) _
    refine XS.astore X1.here hx rfl (hb hby d2_7) rfl rfl (l' := #[.val (.ref (n0 + ob0)), .val (.ref (n0 + ob1)), .val (.int i2), .val (.ref (n0 + a1)), .val (.ref (n0 + ob0)), .unset, .unset, .unset]) rfl ?_
    show Steps p.tables e below (T1.setTop (mkF m 9 #[.val (.ref (n0 + ob0)), .val (.ref (n0 + ob1)), .val (.int i2), .val (.ref (n0 + a1)), .val (.ref (n0 + ob0)), .unset, .unset, .unset] [])) _
    refine XS.aload X1.here hx rfl (hb hby d2_9) rfl rfl ?_
    show Steps p.tables e below (T1.setTop (mkF m 11 #[.val (.ref (n0 + ob0)), .val (.ref (n0 + ob1)), .val (.int i2), .val (.ref (n0 + a1)), .val (.ref (n0 + ob0)), .unset, .unset, .unset] [(.ref (n0 + ob0))])) _
    refine lenW' X1 hx hZ e1 O1 hx2 (ty := .int) rfl (g := (mkF m 11 #[.val (.ref (n0 + ob0)), .val (.ref (n0 + ob1)), .val (.int i2), .val (.ref (n0 + a1)), .val (.ref (n0 + ob0)), .unset, .unset, .unset] [(.ref (n0 + ob0))])) rfl rfl (hb hby d2_11) _ ?_
    show Steps p.tables e below (T1.setTop (mkF m 12 #[.val (.ref (n0 + ob0)), .val (.ref (n0 + ob1)), .val (.int i2), .val (.ref (n0 + a1)), .val (.ref (n0 + ob0)), .unset, .unset, .unset] [(.int x2)])) _
    refine XS.istore X1.here hx rfl (hb hby d2_12) rfl (l' := #[.val (.ref (n0 + ob0)), .val (.ref (n0 + ob1)), .val (.int i2), .val (.ref (n0 + a1)), .val (.ref (n0 + ob0)), .val (.int x2), .unset, .unset]) rfl ?_
    show Steps p.tables e below (T1.setTop (mkF m 14 #[.val (.ref (n0 + ob0)), .val (.ref (n0 + ob1)), .val (.int i2), .val (.ref (n0 + a1)), .val (.ref (n0 + ob0)), .val (.int x2), .unset, .unset] [])) _
    refine XS.iconst X1.here hx rfl (hb hby d2_14) ?_
    show Steps p.tables e below (T1.setTop (mkF m 15 #[.val (.ref (n0 + ob0)), .val (.ref (n0 + ob1)), .val (.int i2), .val (.ref (n0 + a1)), .val (.ref (n0 + ob0)), .val (.int x2), .unset, .unset] [(.int (0 : Int32))])) _
    refine XS.istore X1.here hx rfl (hb hby d2_15) rfl (l' := #[.val (.ref (n0 + ob0)), .val (.ref (n0 + ob1)), .val (.int i2), .val (.ref (n0 + a1)), .val (.ref (n0 + ob0)), .val (.int x2), .val (.int (0 : Int32)), .unset]) rfl ?_
    exact k
  exact bt2_17 hw hC 12 X1 e1 O1 N0 (by omega) (by omega) One.u hf
theorem d3_0 : decode method_4_code 0 = .ok (.iconst 0, 1) := by decide +kernel
theorem d3_1 : decode method_4_code 1 = .ok (.istore 6, 2) := by decide +kernel
theorem d3_3 : decode method_4_code 3 = .ok (.iload_n 0, 1) := by decide +kernel
theorem d3_4 : decode method_4_code 4 = .ok (.ifCond .le 12, 3) := by decide +kernel
theorem d3_7 : decode method_4_code 7 = .ok (.iload_n 1, 1) := by decide +kernel
theorem d3_8 : decode method_4_code 8 = .ok (.iload 5, 2) := by decide +kernel
theorem d3_10 : decode method_4_code 10 = .ok (.if_icmp .ge 6, 3) := by decide +kernel
theorem d3_13 : decode method_4_code 13 = .ok (.iinc 6 1, 3) := by decide +kernel
theorem d3_16 : decode method_4_code 16 = .ok (.iload_n 0, 1) := by decide +kernel
theorem d3_17 : decode method_4_code 17 = .ok (.iconst 1, 1) := by decide +kernel
theorem d3_18 : decode method_4_code 18 = .ok (.if_icmp .le 12, 3) := by decide +kernel
theorem d3_21 : decode method_4_code 21 = .ok (.iload_n 2, 1) := by decide +kernel
theorem d3_22 : decode method_4_code 22 = .ok (.iload 5, 2) := by decide +kernel
theorem d3_24 : decode method_4_code 24 = .ok (.if_icmp .ge 6, 3) := by decide +kernel
theorem d3_27 : decode method_4_code 27 = .ok (.iinc 6 1, 3) := by decide +kernel
theorem d3_30 : decode method_4_code 30 = .ok (.iload_n 0, 1) := by decide +kernel
theorem d3_31 : decode method_4_code 31 = .ok (.iconst 2, 1) := by decide +kernel
theorem d3_32 : decode method_4_code 32 = .ok (.if_icmp .le 12, 3) := by decide +kernel
theorem d3_35 : decode method_4_code 35 = .ok (.iload_n 3, 1) := by decide +kernel
theorem d3_36 : decode method_4_code 36 = .ok (.iload 5, 2) := by decide +kernel
theorem d3_38 : decode method_4_code 38 = .ok (.if_icmp .ge 6, 3) := by decide +kernel
theorem d3_41 : decode method_4_code 41 = .ok (.iinc 6 1, 3) := by decide +kernel
theorem d3_44 : decode method_4_code 44 = .ok (.iload_n 0, 1) := by decide +kernel
theorem d3_45 : decode method_4_code 45 = .ok (.iconst 3, 1) := by decide +kernel
theorem d3_46 : decode method_4_code 46 = .ok (.if_icmp .le 13, 3) := by decide +kernel
theorem d3_49 : decode method_4_code 49 = .ok (.iload 4, 2) := by decide +kernel
theorem d3_51 : decode method_4_code 51 = .ok (.iload 5, 2) := by decide +kernel
theorem d3_53 : decode method_4_code 53 = .ok (.if_icmp .ge 6, 3) := by decide +kernel
theorem d3_56 : decode method_4_code 56 = .ok (.iinc 6 1, 3) := by decide +kernel
theorem d3_59 : decode method_4_code 59 = .ok (.iload 6, 2) := by decide +kernel
theorem d3_61 : decode method_4_code 61 = .ok (.ireturn, 1) := by decide +kernel
theorem pn_3 : plainName "com/example/planar_drawing_kit/planardrawingkit/decomposition/CountingStartsPinLaw" = true := by first | (simp [plainName, overriddenIn]; done) | decide +kernel
def b3_44 (D : Hp) (i0 : Int32) (i4 : Int32) (i5 : Int32) (i6 : Int32) : Option (Int32 × Hp) :=
  if (3 : Int32) < i0 then (if i4 < i5 then (some ((i6 + (1 : Int32)), D)) else (some (i6, D))) else (some (i6, D))
set_option maxRecDepth 65536 in
set_option maxHeartbeats 40000000 in
theorem bt3_44 {p : Program} {l : Launch} {e : Env} {s : State} {m : MethodId} {args : Array Value} {below : List Frame} {meth : Method} {c : Code} {Z : State} {a0 : Array Value} {n0 : Nat} {D' : Hp} {r : Int32} {T0 : State} {locs : List Loc} {cells slots : Nat} {h0 : Heap} {D : Hp} {i0 : Int32} {i1 : Int32} {i2 : Int32} {i3 : Int32} {i4 : Int32} {i5 : Int32} {i6 : Int32} (hw : ∀ d ∈ tables_1, d.before a0 Z = true) (hC : Cx p s m meth c Z method_4_code 7 (some .int) "com/example/planar_drawing_kit/planardrawingkit/decomposition/CountingStartsPinLaw" "below") (X0 : Stand p l e ({ frames := 0, cells := 0, slots := 0, locals := 0 } : Room) s m args below meth c T0 locs cells slots) (e0 : T0.heap = h0) (O0 : Ow Kt1 Z h0 n0 D) (N0 : Fr n0 locs) (hcc : cells ≤ 0) (hss : slots ≤ 0) (hf : b3_44 D i0 i4 i5 i6 = some (r, D')) : Gl p e below s 0 0 (Qw Kt1 Z n0 (some (.int r)) D') (T0.setTop (mkF m 44 #[.val (.int i0), .val (.int i1), .val (.int i2), .val (.int i3), .val (.int i4), .val (.int i5), .val (.int i6)] [])) := by
  obtain ⟨hx, hZ, hby, hml, hown, hnm, hret, hlk⟩ := id hC
  have hml : c.maxLocals = 7 := hml
  rw [b3_44] at hf
  refine Gl.on (B := T0.setTop (mkF m 46 #[.val (.int i0), .val (.int i1), .val (.int i2), .val (.int i3), .val (.int i4), .val (.int i5), .val (.int i6)] [(.int (3 : Int32)), (.int i0)])) (fun t k => ?_) ?_
  · show Steps p.tables e below (T0.setTop (mkF m 44 #[.val (.int i0), .val (.int i1), .val (.int i2), .val (.int i3), .val (.int i4), .val (.int i5), .val (.int i6)] [])) _
    refine XS.iloadN X0.here hx rfl (hb hby d3_44) rfl ?_
    show Steps p.tables e below (T0.setTop (mkF m 45 #[.val (.int i0), .val (.int i1), .val (.int i2), .val (.int i3), .val (.int i4), .val (.int i5), .val (.int i6)] [(.int i0)])) _
    refine XS.iconst X0.here hx rfl (hb hby d3_45) ?_
    exact k
  by_cases hc7 : (3 : Int32) < i0
  · rw [if_pos hc7] at hf
    refine Gl.on (B := T0.setTop (mkF m 53 #[.val (.int i0), .val (.int i1), .val (.int i2), .val (.int i3), .val (.int i4), .val (.int i5), .val (.int i6)] [(.int i5), (.int i4)])) (fun t k => ?_) ?_
    · show Steps p.tables e below (T0.setTop (mkF m 46 #[.val (.int i0), .val (.int i1), .val (.int i2), .val (.int i3), .val (.int i4), .val (.int i5), .val (.int i6)] [(.int (3 : Int32)), (.int i0)])) _
      refine XS.icmpNo X0.here hx rfl (hb hby d3_46) rfl (tlt hc7).2.2.2 ?_
      show Steps p.tables e below (T0.setTop (mkF m 49 #[.val (.int i0), .val (.int i1), .val (.int i2), .val (.int i3), .val (.int i4), .val (.int i5), .val (.int i6)] [])) _
      refine XS.iload X0.here hx rfl (hb hby d3_49) rfl ?_
      show Steps p.tables e below (T0.setTop (mkF m 51 #[.val (.int i0), .val (.int i1), .val (.int i2), .val (.int i3), .val (.int i4), .val (.int i5), .val (.int i6)] [(.int i4)])) _
      refine XS.iload X0.here hx rfl (hb hby d3_51) rfl ?_
      exact k
    by_cases hc8 : i4 < i5
    · rw [if_pos hc8] at hf
      refine Gl.on (B := T0.setTop (mkF m 61 #[.val (.int i0), .val (.int i1), .val (.int i2), .val (.int i3), .val (.int i4), .val (.int i5), .val (.int (i6 + (1 : Int32)))] [(.int (i6 + (1 : Int32)))])) (fun t k => ?_) ?_
      · show Steps p.tables e below (T0.setTop (mkF m 53 #[.val (.int i0), .val (.int i1), .val (.int i2), .val (.int i3), .val (.int i4), .val (.int i5), .val (.int i6)] [(.int i5), (.int i4)])) _
        refine XS.icmpNo X0.here hx rfl (hb hby d3_53) rfl (tlt hc8).2.1 ?_
        show Steps p.tables e below (T0.setTop (mkF m 56 #[.val (.int i0), .val (.int i1), .val (.int i2), .val (.int i3), .val (.int i4), .val (.int i5), .val (.int i6)] [])) _
        refine XS.iinc X0.here hx rfl (hb hby d3_56) rfl (l' := #[.val (.int i0), .val (.int i1), .val (.int i2), .val (.int i3), .val (.int i4), .val (.int i5), .val (.int (i6 + (1 : Int32)))]) rfl ?_
        show Steps p.tables e below (T0.setTop (mkF m 59 #[.val (.int i0), .val (.int i1), .val (.int i2), .val (.int i3), .val (.int i4), .val (.int i5), .val (.int (i6 + (1 : Int32)))] [])) _
        refine XS.iload X0.here hx rfl (hb hby d3_59) rfl ?_
        exact k
      obtain ⟨rfl, rfl⟩ := own_inj hf
      exact Gl.outI X0 hx hlk hret (hb hby d3_61) ⟨rfl, N0, by rw [e0]; exact O0⟩ (by show _ ≤ 0; omega) (by show _ ≤ 0; omega)
    · rw [if_neg hc8] at hf
      refine Gl.on (B := T0.setTop (mkF m 61 #[.val (.int i0), .val (.int i1), .val (.int i2), .val (.int i3), .val (.int i4), .val (.int i5), .val (.int i6)] [(.int i6)])) (fun t k => ?_) ?_
      · show Steps p.tables e below (T0.setTop (mkF m 53 #[.val (.int i0), .val (.int i1), .val (.int i2), .val (.int i3), .val (.int i4), .val (.int i5), .val (.int i6)] [(.int i5), (.int i4)])) _
        refine XS.icmpYes X0.here hx rfl (pc0 := 53) (pc' := 59) rfl (hb hby d3_53) rfl (flt hc8).2.1 (by decide) (by decide) ?_
        show Steps p.tables e below (T0.setTop (mkF m 59 #[.val (.int i0), .val (.int i1), .val (.int i2), .val (.int i3), .val (.int i4), .val (.int i5), .val (.int i6)] [])) _
        refine XS.iload X0.here hx rfl (hb hby d3_59) rfl ?_
        exact k
      obtain ⟨rfl, rfl⟩ := own_inj hf
      exact Gl.outI X0 hx hlk hret (hb hby d3_61) ⟨rfl, N0, by rw [e0]; exact O0⟩ (by show _ ≤ 0; omega) (by show _ ≤ 0; omega)
  · rw [if_neg hc7] at hf
    refine Gl.on (B := T0.setTop (mkF m 61 #[.val (.int i0), .val (.int i1), .val (.int i2), .val (.int i3), .val (.int i4), .val (.int i5), .val (.int i6)] [(.int i6)])) (fun t k => ?_) ?_
    · show Steps p.tables e below (T0.setTop (mkF m 46 #[.val (.int i0), .val (.int i1), .val (.int i2), .val (.int i3), .val (.int i4), .val (.int i5), .val (.int i6)] [(.int (3 : Int32)), (.int i0)])) _
      refine XS.icmpYes X0.here hx rfl (pc0 := 46) (pc' := 59) rfl (hb hby d3_46) rfl (flt hc7).2.2.2 (by decide) (by decide) ?_
      show Steps p.tables e below (T0.setTop (mkF m 59 #[.val (.int i0), .val (.int i1), .val (.int i2), .val (.int i3), .val (.int i4), .val (.int i5), .val (.int i6)] [])) _
      refine XS.iload X0.here hx rfl (hb hby d3_59) rfl ?_
      exact k
    obtain ⟨rfl, rfl⟩ := own_inj hf
    exact Gl.outI X0 hx hlk hret (hb hby d3_61) ⟨rfl, N0, by rw [e0]; exact O0⟩ (by show _ ≤ 0; omega) (by show _ ≤ 0; omega)
def b3_30 (D : Hp) (i0 : Int32) (i3 : Int32) (i4 : Int32) (i5 : Int32) (i6 : Int32) : Option (Int32 × Hp) :=
  if (2 : Int32) < i0 then (if i3 < i5 then (b3_44 D i0 i4 i5 (i6 + (1 : Int32))) else (b3_44 D i0 i4 i5 i6)) else (b3_44 D i0 i4 i5 i6)
set_option maxRecDepth 65536 in
set_option maxHeartbeats 40000000 in
theorem bt3_30 {p : Program} {l : Launch} {e : Env} {s : State} {m : MethodId} {args : Array Value} {below : List Frame} {meth : Method} {c : Code} {Z : State} {a0 : Array Value} {n0 : Nat} {D' : Hp} {r : Int32} {T0 : State} {locs : List Loc} {cells slots : Nat} {h0 : Heap} {D : Hp} {i0 : Int32} {i1 : Int32} {i2 : Int32} {i3 : Int32} {i4 : Int32} {i5 : Int32} {i6 : Int32} (hw : ∀ d ∈ tables_1, d.before a0 Z = true) (hC : Cx p s m meth c Z method_4_code 7 (some .int) "com/example/planar_drawing_kit/planardrawingkit/decomposition/CountingStartsPinLaw" "below") (X0 : Stand p l e ({ frames := 0, cells := 0, slots := 0, locals := 0 } : Room) s m args below meth c T0 locs cells slots) (e0 : T0.heap = h0) (O0 : Ow Kt1 Z h0 n0 D) (N0 : Fr n0 locs) (hcc : cells ≤ 0) (hss : slots ≤ 0) (hf : b3_30 D i0 i3 i4 i5 i6 = some (r, D')) : Gl p e below s 0 0 (Qw Kt1 Z n0 (some (.int r)) D') (T0.setTop (mkF m 30 #[.val (.int i0), .val (.int i1), .val (.int i2), .val (.int i3), .val (.int i4), .val (.int i5), .val (.int i6)] [])) := by
  obtain ⟨hx, hZ, hby, hml, hown, hnm, hret, hlk⟩ := id hC
  have hml : c.maxLocals = 7 := hml
  rw [b3_30] at hf
  refine Gl.on (B := T0.setTop (mkF m 32 #[.val (.int i0), .val (.int i1), .val (.int i2), .val (.int i3), .val (.int i4), .val (.int i5), .val (.int i6)] [(.int (2 : Int32)), (.int i0)])) (fun t k => ?_) ?_
  · show Steps p.tables e below (T0.setTop (mkF m 30 #[.val (.int i0), .val (.int i1), .val (.int i2), .val (.int i3), .val (.int i4), .val (.int i5), .val (.int i6)] [])) _
    refine XS.iloadN X0.here hx rfl (hb hby d3_30) rfl ?_
    show Steps p.tables e below (T0.setTop (mkF m 31 #[.val (.int i0), .val (.int i1), .val (.int i2), .val (.int i3), .val (.int i4), .val (.int i5), .val (.int i6)] [(.int i0)])) _
    refine XS.iconst X0.here hx rfl (hb hby d3_31) ?_
    exact k
  by_cases hc5 : (2 : Int32) < i0
  · rw [if_pos hc5] at hf
    refine Gl.on (B := T0.setTop (mkF m 38 #[.val (.int i0), .val (.int i1), .val (.int i2), .val (.int i3), .val (.int i4), .val (.int i5), .val (.int i6)] [(.int i5), (.int i3)])) (fun t k => ?_) ?_
    · show Steps p.tables e below (T0.setTop (mkF m 32 #[.val (.int i0), .val (.int i1), .val (.int i2), .val (.int i3), .val (.int i4), .val (.int i5), .val (.int i6)] [(.int (2 : Int32)), (.int i0)])) _
      refine XS.icmpNo X0.here hx rfl (hb hby d3_32) rfl (tlt hc5).2.2.2 ?_
      show Steps p.tables e below (T0.setTop (mkF m 35 #[.val (.int i0), .val (.int i1), .val (.int i2), .val (.int i3), .val (.int i4), .val (.int i5), .val (.int i6)] [])) _
      refine XS.iloadN X0.here hx rfl (hb hby d3_35) rfl ?_
      show Steps p.tables e below (T0.setTop (mkF m 36 #[.val (.int i0), .val (.int i1), .val (.int i2), .val (.int i3), .val (.int i4), .val (.int i5), .val (.int i6)] [(.int i3)])) _
      refine XS.iload X0.here hx rfl (hb hby d3_36) rfl ?_
      exact k
    by_cases hc6 : i3 < i5
    · rw [if_pos hc6] at hf
      refine Gl.on (B := T0.setTop (mkF m 44 #[.val (.int i0), .val (.int i1), .val (.int i2), .val (.int i3), .val (.int i4), .val (.int i5), .val (.int (i6 + (1 : Int32)))] [])) (fun t k => ?_) ?_
      · show Steps p.tables e below (T0.setTop (mkF m 38 #[.val (.int i0), .val (.int i1), .val (.int i2), .val (.int i3), .val (.int i4), .val (.int i5), .val (.int i6)] [(.int i5), (.int i3)])) _
        refine XS.icmpNo X0.here hx rfl (hb hby d3_38) rfl (tlt hc6).2.1 ?_
        show Steps p.tables e below (T0.setTop (mkF m 41 #[.val (.int i0), .val (.int i1), .val (.int i2), .val (.int i3), .val (.int i4), .val (.int i5), .val (.int i6)] [])) _
        refine XS.iinc X0.here hx rfl (hb hby d3_41) rfl (l' := #[.val (.int i0), .val (.int i1), .val (.int i2), .val (.int i3), .val (.int i4), .val (.int i5), .val (.int (i6 + (1 : Int32)))]) rfl ?_
        exact k
      exact bt3_44 hw hC X0 e0 O0 N0 (by omega) (by omega) hf
    · rw [if_neg hc6] at hf
      refine Gl.on (B := T0.setTop (mkF m 44 #[.val (.int i0), .val (.int i1), .val (.int i2), .val (.int i3), .val (.int i4), .val (.int i5), .val (.int i6)] [])) (fun t k => ?_) ?_
      · show Steps p.tables e below (T0.setTop (mkF m 38 #[.val (.int i0), .val (.int i1), .val (.int i2), .val (.int i3), .val (.int i4), .val (.int i5), .val (.int i6)] [(.int i5), (.int i3)])) _
        refine XS.icmpYes X0.here hx rfl (pc0 := 38) (pc' := 44) rfl (hb hby d3_38) rfl (flt hc6).2.1 (by decide) (by decide) ?_
        exact k
      exact bt3_44 hw hC X0 e0 O0 N0 (by omega) (by omega) hf
  · rw [if_neg hc5] at hf
    refine Gl.on (B := T0.setTop (mkF m 44 #[.val (.int i0), .val (.int i1), .val (.int i2), .val (.int i3), .val (.int i4), .val (.int i5), .val (.int i6)] [])) (fun t k => ?_) ?_
    · show Steps p.tables e below (T0.setTop (mkF m 32 #[.val (.int i0), .val (.int i1), .val (.int i2), .val (.int i3), .val (.int i4), .val (.int i5), .val (.int i6)] [(.int (2 : Int32)), (.int i0)])) _
      refine XS.icmpYes X0.here hx rfl (pc0 := 32) (pc' := 44) rfl (hb hby d3_32) rfl (flt hc5).2.2.2 (by decide) (by decide) ?_
      exact k
    exact bt3_44 hw hC X0 e0 O0 N0 (by omega) (by omega) hf
def b3_16 (D : Hp) (i0 : Int32) (i2 : Int32) (i3 : Int32) (i4 : Int32) (i5 : Int32) (i6 : Int32) : Option (Int32 × Hp) :=
  if (1 : Int32) < i0 then (if i2 < i5 then (b3_30 D i0 i3 i4 i5 (i6 + (1 : Int32))) else (b3_30 D i0 i3 i4 i5 i6)) else (b3_30 D i0 i3 i4 i5 i6)
set_option maxRecDepth 65536 in
set_option maxHeartbeats 40000000 in
theorem bt3_16 {p : Program} {l : Launch} {e : Env} {s : State} {m : MethodId} {args : Array Value} {below : List Frame} {meth : Method} {c : Code} {Z : State} {a0 : Array Value} {n0 : Nat} {D' : Hp} {r : Int32} {T0 : State} {locs : List Loc} {cells slots : Nat} {h0 : Heap} {D : Hp} {i0 : Int32} {i1 : Int32} {i2 : Int32} {i3 : Int32} {i4 : Int32} {i5 : Int32} {i6 : Int32} (hw : ∀ d ∈ tables_1, d.before a0 Z = true) (hC : Cx p s m meth c Z method_4_code 7 (some .int) "com/example/planar_drawing_kit/planardrawingkit/decomposition/CountingStartsPinLaw" "below") (X0 : Stand p l e ({ frames := 0, cells := 0, slots := 0, locals := 0 } : Room) s m args below meth c T0 locs cells slots) (e0 : T0.heap = h0) (O0 : Ow Kt1 Z h0 n0 D) (N0 : Fr n0 locs) (hcc : cells ≤ 0) (hss : slots ≤ 0) (hf : b3_16 D i0 i2 i3 i4 i5 i6 = some (r, D')) : Gl p e below s 0 0 (Qw Kt1 Z n0 (some (.int r)) D') (T0.setTop (mkF m 16 #[.val (.int i0), .val (.int i1), .val (.int i2), .val (.int i3), .val (.int i4), .val (.int i5), .val (.int i6)] [])) := by
  obtain ⟨hx, hZ, hby, hml, hown, hnm, hret, hlk⟩ := id hC
  have hml : c.maxLocals = 7 := hml
  rw [b3_16] at hf
  refine Gl.on (B := T0.setTop (mkF m 18 #[.val (.int i0), .val (.int i1), .val (.int i2), .val (.int i3), .val (.int i4), .val (.int i5), .val (.int i6)] [(.int (1 : Int32)), (.int i0)])) (fun t k => ?_) ?_
  · show Steps p.tables e below (T0.setTop (mkF m 16 #[.val (.int i0), .val (.int i1), .val (.int i2), .val (.int i3), .val (.int i4), .val (.int i5), .val (.int i6)] [])) _
    refine XS.iloadN X0.here hx rfl (hb hby d3_16) rfl ?_
    show Steps p.tables e below (T0.setTop (mkF m 17 #[.val (.int i0), .val (.int i1), .val (.int i2), .val (.int i3), .val (.int i4), .val (.int i5), .val (.int i6)] [(.int i0)])) _
    refine XS.iconst X0.here hx rfl (hb hby d3_17) ?_
    exact k
  by_cases hc3 : (1 : Int32) < i0
  · rw [if_pos hc3] at hf
    refine Gl.on (B := T0.setTop (mkF m 24 #[.val (.int i0), .val (.int i1), .val (.int i2), .val (.int i3), .val (.int i4), .val (.int i5), .val (.int i6)] [(.int i5), (.int i2)])) (fun t k => ?_) ?_
    · show Steps p.tables e below (T0.setTop (mkF m 18 #[.val (.int i0), .val (.int i1), .val (.int i2), .val (.int i3), .val (.int i4), .val (.int i5), .val (.int i6)] [(.int (1 : Int32)), (.int i0)])) _
      refine XS.icmpNo X0.here hx rfl (hb hby d3_18) rfl (tlt hc3).2.2.2 ?_
      show Steps p.tables e below (T0.setTop (mkF m 21 #[.val (.int i0), .val (.int i1), .val (.int i2), .val (.int i3), .val (.int i4), .val (.int i5), .val (.int i6)] [])) _
      refine XS.iloadN X0.here hx rfl (hb hby d3_21) rfl ?_
      show Steps p.tables e below (T0.setTop (mkF m 22 #[.val (.int i0), .val (.int i1), .val (.int i2), .val (.int i3), .val (.int i4), .val (.int i5), .val (.int i6)] [(.int i2)])) _
      refine XS.iload X0.here hx rfl (hb hby d3_22) rfl ?_
      exact k
    by_cases hc4 : i2 < i5
    · rw [if_pos hc4] at hf
      refine Gl.on (B := T0.setTop (mkF m 30 #[.val (.int i0), .val (.int i1), .val (.int i2), .val (.int i3), .val (.int i4), .val (.int i5), .val (.int (i6 + (1 : Int32)))] [])) (fun t k => ?_) ?_
      · show Steps p.tables e below (T0.setTop (mkF m 24 #[.val (.int i0), .val (.int i1), .val (.int i2), .val (.int i3), .val (.int i4), .val (.int i5), .val (.int i6)] [(.int i5), (.int i2)])) _
        refine XS.icmpNo X0.here hx rfl (hb hby d3_24) rfl (tlt hc4).2.1 ?_
        show Steps p.tables e below (T0.setTop (mkF m 27 #[.val (.int i0), .val (.int i1), .val (.int i2), .val (.int i3), .val (.int i4), .val (.int i5), .val (.int i6)] [])) _
        refine XS.iinc X0.here hx rfl (hb hby d3_27) rfl (l' := #[.val (.int i0), .val (.int i1), .val (.int i2), .val (.int i3), .val (.int i4), .val (.int i5), .val (.int (i6 + (1 : Int32)))]) rfl ?_
        exact k
      exact bt3_30 hw hC X0 e0 O0 N0 (by omega) (by omega) hf
    · rw [if_neg hc4] at hf
      refine Gl.on (B := T0.setTop (mkF m 30 #[.val (.int i0), .val (.int i1), .val (.int i2), .val (.int i3), .val (.int i4), .val (.int i5), .val (.int i6)] [])) (fun t k => ?_) ?_
      · show Steps p.tables e below (T0.setTop (mkF m 24 #[.val (.int i0), .val (.int i1), .val (.int i2), .val (.int i3), .val (.int i4), .val (.int i5), .val (.int i6)] [(.int i5), (.int i2)])) _
        refine XS.icmpYes X0.here hx rfl (pc0 := 24) (pc' := 30) rfl (hb hby d3_24) rfl (flt hc4).2.1 (by decide) (by decide) ?_
        exact k
      exact bt3_30 hw hC X0 e0 O0 N0 (by omega) (by omega) hf
  · rw [if_neg hc3] at hf
    refine Gl.on (B := T0.setTop (mkF m 30 #[.val (.int i0), .val (.int i1), .val (.int i2), .val (.int i3), .val (.int i4), .val (.int i5), .val (.int i6)] [])) (fun t k => ?_) ?_
    · show Steps p.tables e below (T0.setTop (mkF m 18 #[.val (.int i0), .val (.int i1), .val (.int i2), .val (.int i3), .val (.int i4), .val (.int i5), .val (.int i6)] [(.int (1 : Int32)), (.int i0)])) _
      refine XS.icmpYes X0.here hx rfl (pc0 := 18) (pc' := 30) rfl (hb hby d3_18) rfl (flt hc3).2.2.2 (by decide) (by decide) ?_
      exact k
    exact bt3_30 hw hC X0 e0 O0 N0 (by omega) (by omega) hf
def f3 (D : Hp) (i0 : Int32) (i1 : Int32) (i2 : Int32) (i3 : Int32) (i4 : Int32) (i5 : Int32) : Option (Int32 × Hp) :=
  if (0 : Int32) < i0 then (if i1 < i5 then (b3_16 D i0 i2 i3 i4 i5 ((0 : Int32) + (1 : Int32))) else (b3_16 D i0 i2 i3 i4 i5 (0 : Int32))) else (b3_16 D i0 i2 i3 i4 i5 (0 : Int32))
theorem ef_3 (m : MethodId) (i0 : Int32) (i1 : Int32) (i2 : Int32) (i3 : Int32) (i4 : Int32) (i5 : Int32) : entryFrame m #[(.int i0), (.int i1), (.int i2), (.int i3), (.int i4), (.int i5)] 7 = mkF m 0 #[.val (.int i0), .val (.int i1), .val (.int i2), .val (.int i3), .val (.int i4), .val (.int i5), .unset] [] := by first | (simp [entryFrame, mkF, argsToLocals, Value.category]; done) | rfl
set_option maxRecDepth 65536 in
set_option maxHeartbeats 40000000 in
theorem ct3 {l : Launch} {Z : State} {a0 : Array Value} (hw : ∀ d ∈ tables_1, d.before a0 Z = true) {n0 : Nat} {D D' : Hp} {i0 : Int32} {i1 : Int32} {i2 : Int32} {i3 : Int32} {i4 : Int32} {i5 : Int32} {r : Int32} (hf : f3 D i0 i1 i2 i3 i4 i5 = some (r, D')) :
    Ct Kt1 l Z (⟨"com/example/planar_drawing_kit/planardrawingkit/decomposition/CountingStartsPinLaw", "below", "(IIIIII)I"⟩ : MethodName) (.code (⟨"com/example/planar_drawing_kit/planardrawingkit/decomposition/CountingStartsPinLaw", "below", "(IIIIII)I"⟩ : MethodName) method_4_code 7 (some .int)) ({ frames := 0, cells := 0, slots := 0, locals := 0 } : Room) n0 D #[(.int i0), (.int i1), (.int i2), (.int i3), (.int i4), (.int i5)] (some (.int r)) D' := by
  refine Ct.of (plainFor_of_name pn_3) ?_
  intro p e s m below meth c T0 h0 hC X0 e0 O0
  obtain ⟨hx, hZ, hby, hml, hown, hnm, hret, hlk⟩ := id hC
  have hml : c.maxLocals = 7 := hml
  have hown : s.vm.findClass "com/example/planar_drawing_kit/planardrawingkit/decomposition/CountingStartsPinLaw" = some m.cls := hown
  have hnm : meth.name = "below" := hnm
  have N0 := Fr.nil n0
  refine Gl.on (fun t k => castTop (ef_3 m i0 i1 i2 i3 i4 i5) k) ?_
  rw [f3] at hf
  refine Gl.on (B := T0.setTop (mkF m 4 #[.val (.int i0), .val (.int i1), .val (.int i2), .val (.int i3), .val (.int i4), .val (.int i5), .val (.int (0 : Int32))] [(.int i0)])) (fun t k => ?_) ?_
  · show Steps p.tables e below (T0.setTop (mkF m 0 #[.val (.int i0), .val (.int i1), .val (.int i2), .val (.int i3), .val (.int i4), .val (.int i5), .unset] [])) _
    refine XS.iconst X0.here hx rfl (hb hby d3_0) ?_
    show Steps p.tables e below (T0.setTop (mkF m 1 #[.val (.int i0), .val (.int i1), .val (.int i2), .val (.int i3), .val (.int i4), .val (.int i5), .unset] [(.int (0 : Int32))])) _
    refine XS.istore X0.here hx rfl (hb hby d3_1) rfl (l' := #[.val (.int i0), .val (.int i1), .val (.int i2), .val (.int i3), .val (.int i4), .val (.int i5), .val (.int (0 : Int32))]) rfl ?_
    show Steps p.tables e below (T0.setTop (mkF m 3 #[.val (.int i0), .val (.int i1), .val (.int i2), .val (.int i3), .val (.int i4), .val (.int i5), .val (.int (0 : Int32))] [])) _
    refine XS.iloadN X0.here hx rfl (hb hby d3_3) rfl ?_
    exact k
  by_cases hc1 : (0 : Int32) < i0
  · rw [if_pos hc1] at hf
    refine Gl.on (B := T0.setTop (mkF m 10 #[.val (.int i0), .val (.int i1), .val (.int i2), .val (.int i3), .val (.int i4), .val (.int i5), .val (.int (0 : Int32))] [(.int i5), (.int i1)])) (fun t k => ?_) ?_
    · show Steps p.tables e below (T0.setTop (mkF m 4 #[.val (.int i0), .val (.int i1), .val (.int i2), .val (.int i3), .val (.int i4), .val (.int i5), .val (.int (0 : Int32))] [(.int i0)])) _
      refine XS.ifNo X0.here hx rfl (hb hby d3_4) rfl ((if0 _ _).trans (tlt hc1).2.2.2) ?_
      show Steps p.tables e below (T0.setTop (mkF m 7 #[.val (.int i0), .val (.int i1), .val (.int i2), .val (.int i3), .val (.int i4), .val (.int i5), .val (.int (0 : Int32))] [])) _
      refine XS.iloadN X0.here hx rfl (hb hby d3_7) rfl ?_
      show Steps p.tables e below (T0.setTop (mkF m 8 #[.val (.int i0), .val (.int i1), .val (.int i2), .val (.int i3), .val (.int i4), .val (.int i5), .val (.int (0 : Int32))] [(.int i1)])) _
      refine XS.iload X0.here hx rfl (hb hby d3_8) rfl ?_
      exact k
    by_cases hc2 : i1 < i5
    · rw [if_pos hc2] at hf
      refine Gl.on (B := T0.setTop (mkF m 16 #[.val (.int i0), .val (.int i1), .val (.int i2), .val (.int i3), .val (.int i4), .val (.int i5), .val (.int ((0 : Int32) + (1 : Int32)))] [])) (fun t k => ?_) ?_
      · show Steps p.tables e below (T0.setTop (mkF m 10 #[.val (.int i0), .val (.int i1), .val (.int i2), .val (.int i3), .val (.int i4), .val (.int i5), .val (.int (0 : Int32))] [(.int i5), (.int i1)])) _
        refine XS.icmpNo X0.here hx rfl (hb hby d3_10) rfl (tlt hc2).2.1 ?_
        show Steps p.tables e below (T0.setTop (mkF m 13 #[.val (.int i0), .val (.int i1), .val (.int i2), .val (.int i3), .val (.int i4), .val (.int i5), .val (.int (0 : Int32))] [])) _
        refine XS.iinc X0.here hx rfl (hb hby d3_13) rfl (l' := #[.val (.int i0), .val (.int i1), .val (.int i2), .val (.int i3), .val (.int i4), .val (.int i5), .val (.int ((0 : Int32) + (1 : Int32)))]) rfl ?_
        exact k
      exact bt3_16 hw hC X0 e0 O0 N0 (by omega) (by omega) hf
    · rw [if_neg hc2] at hf
      refine Gl.on (B := T0.setTop (mkF m 16 #[.val (.int i0), .val (.int i1), .val (.int i2), .val (.int i3), .val (.int i4), .val (.int i5), .val (.int (0 : Int32))] [])) (fun t k => ?_) ?_
      · show Steps p.tables e below (T0.setTop (mkF m 10 #[.val (.int i0), .val (.int i1), .val (.int i2), .val (.int i3), .val (.int i4), .val (.int i5), .val (.int (0 : Int32))] [(.int i5), (.int i1)])) _
        refine XS.icmpYes X0.here hx rfl (pc0 := 10) (pc' := 16) rfl (hb hby d3_10) rfl (flt hc2).2.1 (by decide) (by decide) ?_
        exact k
      exact bt3_16 hw hC X0 e0 O0 N0 (by omega) (by omega) hf
  · rw [if_neg hc1] at hf
    refine Gl.on (B := T0.setTop (mkF m 16 #[.val (.int i0), .val (.int i1), .val (.int i2), .val (.int i3), .val (.int i4), .val (.int i5), .val (.int (0 : Int32))] [])) (fun t k => ?_) ?_
    · show Steps p.tables e below (T0.setTop (mkF m 4 #[.val (.int i0), .val (.int i1), .val (.int i2), .val (.int i3), .val (.int i4), .val (.int i5), .val (.int (0 : Int32))] [(.int i0)])) _
      refine XS.ifYes X0.here hx rfl (pc0 := 4) (pc' := 16) rfl (hb hby d3_4) rfl ((if0 _ _).trans (flt hc1).2.2.2) (by decide) (by decide) ?_
      exact k
    exact bt3_16 hw hC X0 e0 O0 N0 (by omega) (by omega) hf
theorem pd_0 : parseMethodDescriptor "(IIII)I" = some ⟨[.int, .int, .int, .int], some .int⟩ := by decide +kernel
theorem pd_1 : parseMethodDescriptor "([I[II)[I" = some ⟨[(.array .int), (.array .int), .int], some (.array .int)⟩ := by decide +kernel
theorem pd_2 : parseMethodDescriptor "(IIIIII)I" = some ⟨[.int, .int, .int, .int, .int, .int], some .int⟩ := by decide +kernel
theorem pn_0 : plainName "com/example/planar_drawing_kit/planardrawingkit/decomposition/CountingStartsPinLaw" = true := by first | (simp [plainName, overriddenIn]; done) | decide +kernel
def b0_390 (D : Hp) (i6 : Int32) (i7 : Int32) (i17 : Int32) (i18 : Int32) (i19 : Int32) (i20 : Int32) (ob21 : Nat) (i22 : Int32) : Option (Int32 × Hp) :=
  if i6 < (4 : Int32) then (some ((i22 &&& 1), D)) else (if i22 = (0 : Int32) then (some ((0 : Int32), D)) else ((rI D ob21 0 (4 : Int32)).bind fun x62 =>
  (f3 D i7 i17 i18 i19 i20 (4 : Int32)).bind fun q63 => own_let q63.1 fun x64 => own_let q63.2 fun D63 =>
  if x62 = x64 then (some ((1 : Int32), D63)) else (some ((0 : Int32), D63))))
set_option maxRecDepth 65536 in
set_option maxHeartbeats 40000000 in
theorem bt0_390 {p : Program} {l : Launch} {e : Env} {s : State} {m : MethodId} {args : Array Value} {below : List Frame} {meth : Method} {c : Code} {Z : State} {a0 : Array Value} {n0 : Nat} {D' : Hp} {r : Int32} {T0 : State} {locs : List Loc} {cells slots : Nat} {h0 : Heap} {D : Hp} {i0 : Int32} {i1 : Int32} {i2 : Int32} {i3 : Int32} {i4 : Int32} {i5 : Int32} {i6 : Int32} {i7 : Int32} {i8 : Int32} {i9 : Int32} {i10 : Int32} {ob11 : Nat} {i12 : Int32} {i13 : Int32} {i14 : Int32} {i15 : Int32} {ob16 : Nat} {i17 : Int32} {i18 : Int32} {i19 : Int32} {i20 : Int32} {ob21 : Nat} {i22 : Int32} (hw : ∀ d ∈ tables_1, d.before a0 Z = true) (hC : Cx p s m meth c Z code maxLocals ret "com/example/planar_drawing_kit/planardrawingkit/decomposition/CountingStartsPinLaw" "law") (X0 : Stand p l e room_1 s m args below meth c T0 locs cells slots) (e0 : T0.heap = h0) (O0 : Ow Kt1 Z h0 n0 D) (N0 : Fr n0 locs) (hcc : cells ≤ 3) (hss : slots ≤ 19) (hf : b0_390 D i6 i7 i17 i18 i19 i20 ob21 i22 = some (r, D')) : Gl p e below s 16 128 (Qw Kt1 Z n0 (some (.int r)) D') (T0.setTop (mkF m 390 #[.val (.int i0), .val (.int i1), .val (.int i2), .val (.int i3), .val (.int i4), .val (.int i5), .val (.int i6), .val (.int i7), .val (.int i8), .val (.int i9), .val (.int i10), .val (.ref (n0 + ob11)), .val (.int i12), .val (.int i13), .val (.int i14), .val (.int i15), .val (.ref (n0 + ob16)), .val (.int i17), .val (.int i18), .val (.int i19), .val (.int i20), .val (.ref (n0 + ob21)), .val (.int i22)] [])) := by
  obtain ⟨hx, hZ, hby, hml, hown, hnm, hret, hlk⟩ := id hC
  have hml : c.maxLocals = 23 := hml
  rw [b0_390] at hf
  refine Gl.on (B := T0.setTop (mkF m 393 #[.val (.int i0), .val (.int i1), .val (.int i2), .val (.int i3), .val (.int i4), .val (.int i5), .val (.int i6), .val (.int i7), .val (.int i8), .val (.int i9), .val (.int i10), .val (.ref (n0 + ob11)), .val (.int i12), .val (.int i13), .val (.int i14), .val (.int i15), .val (.ref (n0 + ob16)), .val (.int i17), .val (.int i18), .val (.int i19), .val (.int i20), .val (.ref (n0 + ob21)), .val (.int i22)] [(.int i6), (.int (4 : Int32))])) (fun t k => ?_) ?_
  · show Steps p.tables e below (T0.setTop (mkF m 390 #[.val (.int i0), .val (.int i1), .val (.int i2), .val (.int i3), .val (.int i4), .val (.int i5), .val (.int i6), .val (.int i7), .val (.int i8), .val (.int i9), .val (.int i10), .val (.ref (n0 + ob11)), .val (.int i12), .val (.int i13), .val (.int i14), .val (.int i15), .val (.ref (n0 + ob16)), .val (.int i17), .val (.int i18), .val (.int i19), .val (.int i20), .val (.ref (n0 + ob21)), .val (.int i22)] [])) _
    refine XS.iconst X0.here hx rfl (hb hby at_390) ?_
    show Steps p.tables e below (T0.setTop (mkF m 391 #[.val (.int i0), .val (.int i1), .val (.int i2), .val (.int i3), .val (.int i4), .val (.int i5), .val (.int i6), .val (.int i7), .val (.int i8), .val (.int i9), .val (.int i10), .val (.ref (n0 + ob11)), .val (.int i12), .val (.int i13), .val (.int i14), .val (.int i15), .val (.ref (n0 + ob16)), .val (.int i17), .val (.int i18), .val (.int i19), .val (.int i20), .val (.ref (n0 + ob21)), .val (.int i22)] [(.int (4 : Int32))])) _
    refine XS.iload X0.here hx rfl (hb hby at_391) rfl ?_
    exact k
  by_cases hc60 : i6 < (4 : Int32)
  · rw [if_pos hc60] at hf
    refine Gl.on (B := T0.setTop (mkF m 431 #[.val (.int i0), .val (.int i1), .val (.int i2), .val (.int i3), .val (.int i4), .val (.int i5), .val (.int i6), .val (.int i7), .val (.int i8), .val (.int i9), .val (.int i10), .val (.ref (n0 + ob11)), .val (.int i12), .val (.int i13), .val (.int i14), .val (.int i15), .val (.ref (n0 + ob16)), .val (.int i17), .val (.int i18), .val (.int i19), .val (.int i20), .val (.ref (n0 + ob21)), .val (.int i22)] [(.int i22)])) (fun t k => ?_) ?_
    · show Steps p.tables e below (T0.setTop (mkF m 393 #[.val (.int i0), .val (.int i1), .val (.int i2), .val (.int i3), .val (.int i4), .val (.int i5), .val (.int i6), .val (.int i7), .val (.int i8), .val (.int i9), .val (.int i10), .val (.ref (n0 + ob11)), .val (.int i12), .val (.int i13), .val (.int i14), .val (.int i15), .val (.ref (n0 + ob16)), .val (.int i17), .val (.int i18), .val (.int i19), .val (.int i20), .val (.ref (n0 + ob21)), .val (.int i22)] [(.int i6), (.int (4 : Int32))])) _
      refine XS.icmpYes X0.here hx rfl (pc0 := 393) (pc' := 429) rfl (hb hby at_393) rfl (tlt hc60).2.2.1 (by decide) (by decide) ?_
      show Steps p.tables e below (T0.setTop (mkF m 429 #[.val (.int i0), .val (.int i1), .val (.int i2), .val (.int i3), .val (.int i4), .val (.int i5), .val (.int i6), .val (.int i7), .val (.int i8), .val (.int i9), .val (.int i10), .val (.ref (n0 + ob11)), .val (.int i12), .val (.int i13), .val (.int i14), .val (.int i15), .val (.ref (n0 + ob16)), .val (.int i17), .val (.int i18), .val (.int i19), .val (.int i20), .val (.ref (n0 + ob21)), .val (.int i22)] [])) _
      refine XS.iload X0.here hx rfl (hb hby at_429) rfl ?_
      exact k
    obtain ⟨rfl, rfl⟩ := own_inj hf
    exact Gl.outN X0 hx hlk (t := .boolean) hret (by simp) (hb hby at_431) ⟨rfl, N0, by rw [e0]; exact O0⟩ (by show _ ≤ 16; omega) (by show _ ≤ 128; omega)
  · rw [if_neg hc60] at hf
    refine Gl.on (B := T0.setTop (mkF m 398 #[.val (.int i0), .val (.int i1), .val (.int i2), .val (.int i3), .val (.int i4), .val (.int i5), .val (.int i6), .val (.int i7), .val (.int i8), .val (.int i9), .val (.int i10), .val (.ref (n0 + ob11)), .val (.int i12), .val (.int i13), .val (.int i14), .val (.int i15), .val (.ref (n0 + ob16)), .val (.int i17), .val (.int i18), .val (.int i19), .val (.int i20), .val (.ref (n0 + ob21)), .val (.int i22)] [(.int i22)])) (fun t k => ?_) ?_
    · show Steps p.tables e below (T0.setTop (mkF m 393 #[.val (.int i0), .val (.int i1), .val (.int i2), .val (.int i3), .val (.int i4), .val (.int i5), .val (.int i6), .val (.int i7), .val (.int i8), .val (.int i9), .val (.int i10), .val (.ref (n0 + ob11)), .val (.int i12), .val (.int i13), .val (.int i14), .val (.int i15), .val (.ref (n0 + ob16)), .val (.int i17), .val (.int i18), .val (.int i19), .val (.int i20), .val (.ref (n0 + ob21)), .val (.int i22)] [(.int i6), (.int (4 : Int32))])) _
      refine XS.icmpNo X0.here hx rfl (hb hby at_393) rfl (flt hc60).2.2.1 ?_
      show Steps p.tables e below (T0.setTop (mkF m 396 #[.val (.int i0), .val (.int i1), .val (.int i2), .val (.int i3), .val (.int i4), .val (.int i5), .val (.int i6), .val (.int i7), .val (.int i8), .val (.int i9), .val (.int i10), .val (.ref (n0 + ob11)), .val (.int i12), .val (.int i13), .val (.int i14), .val (.int i15), .val (.ref (n0 + ob16)), .val (.int i17), .val (.int i18), .val (.int i19), .val (.int i20), .val (.ref (n0 + ob21)), .val (.int i22)] [])) _
      refine XS.iload X0.here hx rfl (hb hby at_396) rfl ?_
      exact k
    by_cases hc61 : i22 = (0 : Int32)
    · rw [if_pos hc61] at hf
      refine Gl.on (B := T0.setTop (mkF m 431 #[.val (.int i0), .val (.int i1), .val (.int i2), .val (.int i3), .val (.int i4), .val (.int i5), .val (.int i6), .val (.int i7), .val (.int i8), .val (.int i9), .val (.int i10), .val (.ref (n0 + ob11)), .val (.int i12), .val (.int i13), .val (.int i14), .val (.int i15), .val (.ref (n0 + ob16)), .val (.int i17), .val (.int i18), .val (.int i19), .val (.int i20), .val (.ref (n0 + ob21)), .val (.int (0 : Int32))] [(.int (0 : Int32))])) (fun t k => ?_) ?_
      · show Steps p.tables e below (T0.setTop (mkF m 398 #[.val (.int i0), .val (.int i1), .val (.int i2), .val (.int i3), .val (.int i4), .val (.int i5), .val (.int i6), .val (.int i7), .val (.int i8), .val (.int i9), .val (.int i10), .val (.ref (n0 + ob11)), .val (.int i12), .val (.int i13), .val (.int i14), .val (.int i15), .val (.ref (n0 + ob16)), .val (.int i17), .val (.int i18), .val (.int i19), .val (.int i20), .val (.ref (n0 + ob21)), .val (.int i22)] [(.int i22)])) _
        refine XS.ifYes X0.here hx rfl (pc0 := 398) (pc' := 426) rfl (hb hby at_398) rfl ((if0 _ _).trans (teq hc61).1) (by decide) (by decide) ?_
        show Steps p.tables e below (T0.setTop (mkF m 426 #[.val (.int i0), .val (.int i1), .val (.int i2), .val (.int i3), .val (.int i4), .val (.int i5), .val (.int i6), .val (.int i7), .val (.int i8), .val (.int i9), .val (.int i10), .val (.ref (n0 + ob11)), .val (.int i12), .val (.int i13), .val (.int i14), .val (.int i15), .val (.ref (n0 + ob16)), .val (.int i17), .val (.int i18), .val (.int i19), .val (.int i20), .val (.ref (n0 + ob21)), .val (.int i22)] [])) _
        refine XS.iconst X0.here hx rfl (hb hby at_426) ?_
        show Steps p.tables e below (T0.setTop (mkF m 427 #[.val (.int i0), .val (.int i1), .val (.int i2), .val (.int i3), .val (.int i4), .val (.int i5), .val (.int i6), .val (.int i7), .val (.int i8), .val (.int i9), .val (.int i10), .val (.ref (n0 + ob11)), .val (.int i12), .val (.int i13), .val (.int i14), .val (.int i15), .val (.ref (n0 + ob16)), .val (.int i17), .val (.int i18), .val (.int i19), .val (.int i20), .val (.ref (n0 + ob21)), .val (.int i22)] [(.int (0 : Int32))])) _
        refine XS.istore X0.here hx rfl (hb hby at_427) rfl (l' := #[.val (.int i0), .val (.int i1), .val (.int i2), .val (.int i3), .val (.int i4), .val (.int i5), .val (.int i6), .val (.int i7), .val (.int i8), .val (.int i9), .val (.int i10), .val (.ref (n0 + ob11)), .val (.int i12), .val (.int i13), .val (.int i14), .val (.int i15), .val (.ref (n0 + ob16)), .val (.int i17), .val (.int i18), .val (.int i19), .val (.int i20), .val (.ref (n0 + ob21)), .val (.int (0 : Int32))]) rfl ?_
        show Steps p.tables e below (T0.setTop (mkF m 429 #[.val (.int i0), .val (.int i1), .val (.int i2), .val (.int i3), .val (.int i4), .val (.int i5), .val (.int i6), .val (.int i7), .val (.int i8), .val (.int i9), .val (.int i10), .val (.ref (n0 + ob11)), .val (.int i12), .val (.int i13), .val (.int i14), .val (.int i15), .val (.ref (n0 + ob16)), .val (.int i17), .val (.int i18), .val (.int i19), .val (.int i20), .val (.ref (n0 + ob21)), .val (.int (0 : Int32))] [])) _
        refine XS.iload X0.here hx rfl (hb hby at_429) rfl ?_
        exact k
      obtain ⟨rfl, rfl⟩ := own_inj hf
      exact Gl.outN X0 hx hlk (t := .boolean) hret (by simp) (hb hby at_431) ⟨rfl, N0, by rw [e0]; exact O0⟩ (by show _ ≤ 16; omega) (by show _ ≤ 128; omega)
    · rw [if_neg hc61] at hf
      obtain ⟨x62, hx62, hf⟩ := own_bind hf
      obtain ⟨⟨x64, D63⟩, hq63, hf⟩ := own_bind hf
      obtain ⟨_, rfl, hf⟩ := own_letE hf
      obtain ⟨_, rfl, hf⟩ := own_letE hf
      obtain ⟨T63, h63, L63, X63, e63, O63, N63, st63⟩ := callSW X0 hx hZ (y := (⟨"com/example/planar_drawing_kit/planardrawingkit/decomposition/CountingStartsPinLaw", "below", "(IIIIII)I"⟩ : MethodName)) hown (hw _ (List.mem_of_getElem? (i := 10) rfl)) (hw _ (List.mem_of_getElem? (i := 11) rfl)) (hw _ (List.mem_of_getElem? (i := 4) rfl)) (hw _ (List.mem_of_getElem? (i := 12) rfl)) (by decide) e0 O0 N0 (as' := [(.int i7), (.int i17), (.int i18), (.int i19), (.int i20), (.int (4 : Int32))]) (ct3 hw hq63) (W := 1) (kc := 0) (ks := 0) rfl rfl (by decide) (by decide) (g := (mkF m 416 #[.val (.int i0), .val (.int i1), .val (.int i2), .val (.int i3), .val (.int i4), .val (.int i5), .val (.int i6), .val (.int i7), .val (.int i8), .val (.int i9), .val (.int i10), .val (.ref (n0 + ob11)), .val (.int i12), .val (.int i13), .val (.int i14), .val (.int i15), .val (.ref (n0 + ob16)), .val (.int i17), .val (.int i18), .val (.int i19), .val (.int i20), .val (.ref (n0 + ob21)), .val (.int i22)] [(.int (4 : Int32)), (.int i20), (.int i19), (.int i18), (.int i17), (.int i7), (.int x62)])) rfl (by rw [hml]; rfl) (rest := [(.int x62)]) (lenOf pd_2 rfl) rfl (by show 2 * 0 + _ ≤ _; exact Nat.le_of_eq rfl) (hb hby at_416) (by show _ + 0 ≤ 16; omega) (by show _ + 0 ≤ 128; omega)
      refine Gl.on (B := T63.setTop (mkF m 419 #[.val (.int i0), .val (.int i1), .val (.int i2), .val (.int i3), .val (.int i4), .val (.int i5), .val (.int i6), .val (.int i7), .val (.int i8), .val (.int i9), .val (.int i10), .val (.ref (n0 + ob11)), .val (.int i12), .val (.int i13), .val (.int i14), .val (.int i15), .val (.ref (n0 + ob16)), .val (.int i17), .val (.int i18), .val (.int i19), .val (.int i20), .val (.ref (n0 + ob21)), .val (.int i22)] [(.int x64), (.int x62)])) (fun t k => ?_) ?_
      · show Steps p.tables e below (T0.setTop (mkF m 398 #[.val (.int i0), .val (.int i1), .val (.int i2), .val (.int i3), .val (.int i4), .val (.int i5), .val (.int i6), .val (.int i7), .val (.int i8), .val (.int i9), .val (.int i10), .val (.ref (n0 + ob11)), .val (.int i12), .val (.int i13), .val (.int i14), .val (.int i15), .val (.ref (n0 + ob16)), .val (.int i17), .val (.int i18), .val (.int i19), .val (.int i20), .val (.ref (n0 + ob21)), .val (.int i22)] [(.int i22)])) _
        refine XS.ifNo X0.here hx rfl (hb hby at_398) rfl ((if0 _ _).trans (feq hc61).1) ?_
        show Steps p.tables e below (T0.setTop (mkF m 401 #[.val (.int i0), .val (.int i1), .val (.int i2), .val (.int i3), .val (.int i4), .val (.int i5), .val (.int i6), .val (.int i7), .val (.int i8), .val (.int i9), .val (.int i10), .val (.ref (n0 + ob11)), .val (.int i12), .val (.int i13), .val (.int i14), .val (.int i15), .val (.ref (n0 + ob16)), .val (.int i17), .val (.int i18), .val (.int i19), .val (.int i20), .val (.ref (n0 + ob21)), .val (.int i22)] [])) _
        refine XS.aload X0.here hx rfl (hb hby at_401) rfl rfl ?_
        show Steps p.tables e below (T0.setTop (mkF m 403 #[.val (.int i0), .val (.int i1), .val (.int i2), .val (.int i3), .val (.int i4), .val (.int i5), .val (.int i6), .val (.int i7), .val (.int i8), .val (.int i9), .val (.int i10), .val (.ref (n0 + ob11)), .val (.int i12), .val (.int i13), .val (.int i14), .val (.int i15), .val (.ref (n0 + ob16)), .val (.int i17), .val (.int i18), .val (.int i19), .val (.int i20), .val (.ref (n0 + ob21)), .val (.int i22)] [(.ref (n0 + ob21))])) _
        refine XS.iconst X0.here hx rfl (hb hby at_403) ?_
        show Steps p.tables e below (T0.setTop (mkF m 404 #[.val (.int i0), .val (.int i1), .val (.int i2), .val (.int i3), .val (.int i4), .val (.int i5), .val (.int i6), .val (.int i7), .val (.int i8), .val (.int i9), .val (.int i10), .val (.ref (n0 + ob11)), .val (.int i12), .val (.int i13), .val (.int i14), .val (.int i15), .val (.ref (n0 + ob16)), .val (.int i17), .val (.int i18), .val (.int i19), .val (.int i20), .val (.ref (n0 + ob21)), .val (.int i22)] [(.int (4 : Int32)), (.ref (n0 + ob21))])) _
        refine ldW X0 hx hZ e0 O0 hx62 rfl (g := (mkF m 404 #[.val (.int i0), .val (.int i1), .val (.int i2), .val (.int i3), .val (.int i4), .val (.int i5), .val (.int i6), .val (.int i7), .val (.int i8), .val (.int i9), .val (.int i10), .val (.ref (n0 + ob11)), .val (.int i12), .val (.int i13), .val (.int i14), .val (.int i15), .val (.ref (n0 + ob16)), .val (.int i17), .val (.int i18), .val (.int i19), .val (.int i20), .val (.ref (n0 + ob21)), .val (.int i22)] [(.int (4 : Int32)), (.ref (n0 + ob21))])) rfl rfl (hb hby at_404) _ ?_
        show Steps p.tables e below (T0.setTop (mkF m 405 #[.val (.int i0), .val (.int i1), .val (.int i2), .val (.int i3), .val (.int i4), .val (.int i5), .val (.int i6), .val (.int i7), .val (.int i8), .val (.int i9), .val (.int i10), .val (.ref (n0 + ob11)), .val (.int i12), .val (.int i13), .val (.int i14), .val (.int i15), .val (.ref (n0 + ob16)), .val (.int i17), .val (.int i18), .val (.int i19), .val (.int i20), .val (.ref (n0 + ob21)), .val (.int i22)] [(.int x62)])) _
        refine XS.iload X0.here hx rfl (hb hby at_405) rfl ?_
        show Steps p.tables e below (T0.setTop (mkF m 407 #[.val (.int i0), .val (.int i1), .val (.int i2), .val (.int i3), .val (.int i4), .val (.int i5), .val (.int i6), .val (.int i7), .val (.int i8), .val (.int i9), .val (.int i10), .val (.ref (n0 + ob11)), .val (.int i12), .val (.int i13), .val (.int i14), .val (.int i15), .val (.ref (n0 + ob16)), .val (.int i17), .val (.int i18), .val (.int i19), .val (.int i20), .val (.ref (n0 + ob21)), .val (.int i22)] [(.int i7), (.int x62)])) _
        refine XS.iload X0.here hx rfl (hb hby at_407) rfl ?_
        show Steps p.tables e below (T0.setTop (mkF m 409 #[.val (.int i0), .val (.int i1), .val (.int i2), .val (.int i3), .val (.int i4), .val (.int i5), .val (.int i6), .val (.int i7), .val (.int i8), .val (.int i9), .val (.int i10), .val (.ref (n0 + ob11)), .val (.int i12), .val (.int i13), .val (.int i14), .val (.int i15), .val (.ref (n0 + ob16)), .val (.int i17), .val (.int i18), .val (.int i19), .val (.int i20), .val (.ref (n0 + ob21)), .val (.int i22)] [(.int i17), (.int i7), (.int x62)])) _
        refine XS.iload X0.here hx rfl (hb hby at_409) rfl ?_
        show Steps p.tables e below (T0.setTop (mkF m 411 #[.val (.int i0), .val (.int i1), .val (.int i2), .val (.int i3), .val (.int i4), .val (.int i5), .val (.int i6), .val (.int i7), .val (.int i8), .val (.int i9), .val (.int i10), .val (.ref (n0 + ob11)), .val (.int i12), .val (.int i13), .val (.int i14), .val (.int i15), .val (.ref (n0 + ob16)), .val (.int i17), .val (.int i18), .val (.int i19), .val (.int i20), .val (.ref (n0 + ob21)), .val (.int i22)] [(.int i18), (.int i17), (.int i7), (.int x62)])) _
        refine XS.iload X0.here hx rfl (hb hby at_411) rfl ?_
        show Steps p.tables e below (T0.setTop (mkF m 413 #[.val (.int i0), .val (.int i1), .val (.int i2), .val (.int i3), .val (.int i4), .val (.int i5), .val (.int i6), .val (.int i7), .val (.int i8), .val (.int i9), .val (.int i10), .val (.ref (n0 + ob11)), .val (.int i12), .val (.int i13), .val (.int i14), .val (.int i15), .val (.ref (n0 + ob16)), .val (.int i17), .val (.int i18), .val (.int i19), .val (.int i20), .val (.ref (n0 + ob21)), .val (.int i22)] [(.int i19), (.int i18), (.int i17), (.int i7), (.int x62)])) _
        refine XS.iload X0.here hx rfl (hb hby at_413) rfl ?_
        show Steps p.tables e below (T0.setTop (mkF m 415 #[.val (.int i0), .val (.int i1), .val (.int i2), .val (.int i3), .val (.int i4), .val (.int i5), .val (.int i6), .val (.int i7), .val (.int i8), .val (.int i9), .val (.int i10), .val (.ref (n0 + ob11)), .val (.int i12), .val (.int i13), .val (.int i14), .val (.int i15), .val (.ref (n0 + ob16)), .val (.int i17), .val (.int i18), .val (.int i19), .val (.int i20), .val (.ref (n0 + ob21)), .val (.int i22)] [(.int i20), (.int i19), (.int i18), (.int i17), (.int i7), (.int x62)])) _
        refine XS.iconst X0.here hx rfl (hb hby at_415) ?_
        show Steps p.tables e below (T0.setTop (mkF m 416 #[.val (.int i0), .val (.int i1), .val (.int i2), .val (.int i3), .val (.int i4), .val (.int i5), .val (.int i6), .val (.int i7), .val (.int i8), .val (.int i9), .val (.int i10), .val (.ref (n0 + ob11)), .val (.int i12), .val (.int i13), .val (.int i14), .val (.int i15), .val (.ref (n0 + ob16)), .val (.int i17), .val (.int i18), .val (.int i19), .val (.int i20), .val (.ref (n0 + ob21)), .val (.int i22)] [(.int (4 : Int32)), (.int i20), (.int i19), (.int i18), (.int i17), (.int i7), (.int x62)])) _
        refine st63 _ ?_
        exact k
      by_cases hc65 : x62 = x64
      · rw [if_pos hc65] at hf
        refine Gl.on (B := T63.setTop (mkF m 431 #[.val (.int i0), .val (.int i1), .val (.int i2), .val (.int i3), .val (.int i4), .val (.int i5), .val (.int i6), .val (.int i7), .val (.int i8), .val (.int i9), .val (.int i10), .val (.ref (n0 + ob11)), .val (.int i12), .val (.int i13), .val (.int i14), .val (.int i15), .val (.ref (n0 + ob16)), .val (.int i17), .val (.int i18), .val (.int i19), .val (.int i20), .val (.ref (n0 + ob21)), .val (.int (1 : Int32))] [(.int (1 : Int32))])) (fun t k => ?_) ?_
        · show Steps p.tables e below (T63.setTop (mkF m 419 #[.val (.int i0), .val (.int i1), .val (.int i2), .val (.int i3), .val (.int i4), .val (.int i5), .val (.int i6), .val (.int i7), .val (.int i8), .val (.int i9), .val (.int i10), .val (.ref (n0 + ob11)), .val (.int i12), .val (.int i13), .val (.int i14), .val (.int i15), .val (.ref (n0 + ob16)), .val (.int i17), .val (.int i18), .val (.int i19), .val (.int i20), .val (.ref (n0 + ob21)), .val (.int i22)] [(.int x64), (.int x62)])) _
          refine XS.icmpNo X63.here hx rfl (hb hby at_419) rfl (teq hc65).2 ?_
          show Steps p.tables e below (T63.setTop (mkF m 422 #[.val (.int i0), .val (.int i1), .val (.int i2), .val (.int i3), .val (.int i4), .val (.int i5), .val (.int i6), .val (.int i7), .val (.int i8), .val (.int i9), .val (.int i10), .val (.ref (n0 + ob11)), .val (.int i12), .val (.int i13), .val (.int i14), .val (.int i15), .val (.ref (n0 + ob16)), .val (.int i17), .val (.int i18), .val (.int i19), .val (.int i20), .val (.ref (n0 + ob21)), .val (.int i22)] [])) _
          refine XS.iconst X63.here hx rfl (hb hby at_422) ?_
          show Steps p.tables e below (T63.setTop (mkF m 423 #[.val (.int i0), .val (.int i1), .val (.int i2), .val (.int i3), .val (.int i4), .val (.int i5), .val (.int i6), .val (.int i7), .val (.int i8), .val (.int i9), .val (.int i10), .val (.ref (n0 + ob11)), .val (.int i12), .val (.int i13), .val (.int i14), .val (.int i15), .val (.ref (n0 + ob16)), .val (.int i17), .val (.int i18), .val (.int i19), .val (.int i20), .val (.ref (n0 + ob21)), .val (.int i22)] [(.int (1 : Int32))])) _
          refine XS.goto X63.here hx rfl (pc0 := 423) (pc' := 427) rfl (hb hby at_423) (by decide) (by decide) ?_
          show Steps p.tables e below (T63.setTop (mkF m 427 #[.val (.int i0), .val (.int i1), .val (.int i2), .val (.int i3), .val (.int i4), .val (.int i5), .val (.int i6), .val (.int i7), .val (.int i8), .val (.int i9), .val (.int i10), .val (.ref (n0 + ob11)), .val (.int i12), .val (.int i13), .val (.int i14), .val (.int i15), .val (.ref (n0 + ob16)), .val (.int i17), .val (.int i18), .val (.int i19), .val (.int i20), .val (.ref (n0 + ob21)), .val (.int i22)] [(.int (1 : Int32))])) _
          refine XS.istore X63.here hx rfl (hb hby at_427) rfl (l' := #[.val (.int i0), .val (.int i1), .val (.int i2), .val (.int i3), .val (.int i4), .val (.int i5), .val (.int i6), .val (.int i7), .val (.int i8), .val (.int i9), .val (.int i10), .val (.ref (n0 + ob11)), .val (.int i12), .val (.int i13), .val (.int i14), .val (.int i15), .val (.ref (n0 + ob16)), .val (.int i17), .val (.int i18), .val (.int i19), .val (.int i20), .val (.ref (n0 + ob21)), .val (.int (1 : Int32))]) rfl ?_
          show Steps p.tables e below (T63.setTop (mkF m 429 #[.val (.int i0), .val (.int i1), .val (.int i2), .val (.int i3), .val (.int i4), .val (.int i5), .val (.int i6), .val (.int i7), .val (.int i8), .val (.int i9), .val (.int i10), .val (.ref (n0 + ob11)), .val (.int i12), .val (.int i13), .val (.int i14), .val (.int i15), .val (.ref (n0 + ob16)), .val (.int i17), .val (.int i18), .val (.int i19), .val (.int i20), .val (.ref (n0 + ob21)), .val (.int (1 : Int32))] [])) _
          refine XS.iload X63.here hx rfl (hb hby at_429) rfl ?_
          exact k
        obtain ⟨rfl, rfl⟩ := own_inj hf
        exact Gl.outN X63 hx hlk (t := .boolean) hret (by simp) (hb hby at_431) ⟨rfl, N63, by rw [e63]; exact O63⟩ (by show _ ≤ 16; omega) (by show _ ≤ 128; omega)
      · rw [if_neg hc65] at hf
        refine Gl.on (B := T63.setTop (mkF m 431 #[.val (.int i0), .val (.int i1), .val (.int i2), .val (.int i3), .val (.int i4), .val (.int i5), .val (.int i6), .val (.int i7), .val (.int i8), .val (.int i9), .val (.int i10), .val (.ref (n0 + ob11)), .val (.int i12), .val (.int i13), .val (.int i14), .val (.int i15), .val (.ref (n0 + ob16)), .val (.int i17), .val (.int i18), .val (.int i19), .val (.int i20), .val (.ref (n0 + ob21)), .val (.int (0 : Int32))] [(.int (0 : Int32))])) (fun t k => ?_) ?_
        · show Steps p.tables e below (T63.setTop (mkF m 419 #[.val (.int i0), .val (.int i1), .val (.int i2), .val (.int i3), .val (.int i4), .val (.int i5), .val (.int i6), .val (.int i7), .val (.int i8), .val (.int i9), .val (.int i10), .val (.ref (n0 + ob11)), .val (.int i12), .val (.int i13), .val (.int i14), .val (.int i15), .val (.ref (n0 + ob16)), .val (.int i17), .val (.int i18), .val (.int i19), .val (.int i20), .val (.ref (n0 + ob21)), .val (.int i22)] [(.int x64), (.int x62)])) _
          refine XS.icmpYes X63.here hx rfl (pc0 := 419) (pc' := 426) rfl (hb hby at_419) rfl (feq hc65).2 (by decide) (by decide) ?_
          show Steps p.tables e below (T63.setTop (mkF m 426 #[.val (.int i0), .val (.int i1), .val (.int i2), .val (.int i3), .val (.int i4), .val (.int i5), .val (.int i6), .val (.int i7), .val (.int i8), .val (.int i9), .val (.int i10), .val (.ref (n0 + ob11)), .val (.int i12), .val (.int i13), .val (.int i14), .val (.int i15), .val (.ref (n0 + ob16)), .val (.int i17), .val (.int i18), .val (.int i19), .val (.int i20), .val (.ref (n0 + ob21)), .val (.int i22)] [])) _
          refine XS.iconst X63.here hx rfl (hb hby at_426) ?_
          show Steps p.tables e below (T63.setTop (mkF m 427 #[.val (.int i0), .val (.int i1), .val (.int i2), .val (.int i3), .val (.int i4), .val (.int i5), .val (.int i6), .val (.int i7), .val (.int i8), .val (.int i9), .val (.int i10), .val (.ref (n0 + ob11)), .val (.int i12), .val (.int i13), .val (.int i14), .val (.int i15), .val (.ref (n0 + ob16)), .val (.int i17), .val (.int i18), .val (.int i19), .val (.int i20), .val (.ref (n0 + ob21)), .val (.int i22)] [(.int (0 : Int32))])) _
          refine XS.istore X63.here hx rfl (hb hby at_427) rfl (l' := #[.val (.int i0), .val (.int i1), .val (.int i2), .val (.int i3), .val (.int i4), .val (.int i5), .val (.int i6), .val (.int i7), .val (.int i8), .val (.int i9), .val (.int i10), .val (.ref (n0 + ob11)), .val (.int i12), .val (.int i13), .val (.int i14), .val (.int i15), .val (.ref (n0 + ob16)), .val (.int i17), .val (.int i18), .val (.int i19), .val (.int i20), .val (.ref (n0 + ob21)), .val (.int (0 : Int32))]) rfl ?_
          show Steps p.tables e below (T63.setTop (mkF m 429 #[.val (.int i0), .val (.int i1), .val (.int i2), .val (.int i3), .val (.int i4), .val (.int i5), .val (.int i6), .val (.int i7), .val (.int i8), .val (.int i9), .val (.int i10), .val (.ref (n0 + ob11)), .val (.int i12), .val (.int i13), .val (.int i14), .val (.int i15), .val (.ref (n0 + ob16)), .val (.int i17), .val (.int i18), .val (.int i19), .val (.int i20), .val (.ref (n0 + ob21)), .val (.int (0 : Int32))] [])) _
          refine XS.iload X63.here hx rfl (hb hby at_429) rfl ?_
          exact k
        obtain ⟨rfl, rfl⟩ := own_inj hf
        exact Gl.outN X63 hx hlk (t := .boolean) hret (by simp) (hb hby at_431) ⟨rfl, N63, by rw [e63]; exact O63⟩ (by show _ ≤ 16; omega) (by show _ ≤ 128; omega)
def b0_388 (D : Hp) (i6 : Int32) (i7 : Int32) (i17 : Int32) (i18 : Int32) (i19 : Int32) (i20 : Int32) (ob21 : Nat) (t0 : Int32) : Option (Int32 × Hp) :=
  b0_390 D i6 i7 i17 i18 i19 i20 ob21 t0
set_option maxRecDepth 65536 in
set_option maxHeartbeats 40000000 in
theorem bt0_388 {p : Program} {l : Launch} {e : Env} {s : State} {m : MethodId} {args : Array Value} {below : List Frame} {meth : Method} {c : Code} {Z : State} {a0 : Array Value} {n0 : Nat} {D' : Hp} {r : Int32} {T0 : State} {locs : List Loc} {cells slots : Nat} {h0 : Heap} {D : Hp} {i0 : Int32} {i1 : Int32} {i2 : Int32} {i3 : Int32} {i4 : Int32} {i5 : Int32} {i6 : Int32} {i7 : Int32} {i8 : Int32} {i9 : Int32} {i10 : Int32} {ob11 : Nat} {i12 : Int32} {i13 : Int32} {i14 : Int32} {i15 : Int32} {ob16 : Nat} {i17 : Int32} {i18 : Int32} {i19 : Int32} {i20 : Int32} {ob21 : Nat} {i22 : Int32} {t0 : Int32} (hw : ∀ d ∈ tables_1, d.before a0 Z = true) (hC : Cx p s m meth c Z code maxLocals ret "com/example/planar_drawing_kit/planardrawingkit/decomposition/CountingStartsPinLaw" "law") (X0 : Stand p l e room_1 s m args below meth c T0 locs cells slots) (e0 : T0.heap = h0) (O0 : Ow Kt1 Z h0 n0 D) (N0 : Fr n0 locs) (hcc : cells ≤ 3) (hss : slots ≤ 19) (hf : b0_388 D i6 i7 i17 i18 i19 i20 ob21 t0 = some (r, D')) : Gl p e below s 16 128 (Qw Kt1 Z n0 (some (.int r)) D') (T0.setTop (mkF m 388 #[.val (.int i0), .val (.int i1), .val (.int i2), .val (.int i3), .val (.int i4), .val (.int i5), .val (.int i6), .val (.int i7), .val (.int i8), .val (.int i9), .val (.int i10), .val (.ref (n0 + ob11)), .val (.int i12), .val (.int i13), .val (.int i14), .val (.int i15), .val (.ref (n0 + ob16)), .val (.int i17), .val (.int i18), .val (.int i19), .val (.int i20), .val (.ref (n0 + ob21)), .val (.int i22)] [(.int t0)])) := by
  obtain ⟨hx, hZ, hby, hml, hown, hnm, hret, hlk⟩ := id hC
  have hml : c.maxLocals = 23 := hml
  rw [b0_388] at hf
  refine Gl.on (B := T0.setTop (mkF m 390 #[.val (.int i0), .val (.int i1), .val (.int i2), .val (.int i3), .val (.int i4), .val (.int i5), .val (.int i6), .val (.int i7), .val (.int i8), .val (.int i9), .val (.int i10), .val (.ref (n0 + ob11)), .val (.int i12), .val (.int i13), .val (.int i14), .val (.int i15), .val (.ref (n0 + ob16)), .val (.int i17), .val (.int i18), .val (.int i19), .val (.int i20), .val (.ref (n0 + ob21)), .val (.int t0)] [])) (fun t k => ?_) ?_
  · show Steps p.tables e below (T0.setTop (mkF m 388 #[.val (.int i0), .val (.int i1), .val (.int i2), .val (.int i3), .val (.int i4), .val (.int i5), .val (.int i6), .val (.int i7), .val (.int i8), .val (.int i9), .val (.int i10), .val (.ref (n0 + ob11)), .val (.int i12), .val (.int i13), .val (.int i14), .val (.int i15), .val (.ref (n0 + ob16)), .val (.int i17), .val (.int i18), .val (.int i19), .val (.int i20), .val (.ref (n0 + ob21)), .val (.int i22)] [(.int t0)])) _
    refine XS.istore X0.here hx rfl (hb hby at_388) rfl (l' := #[.val (.int i0), .val (.int i1), .val (.int i2), .val (.int i3), .val (.int i4), .val (.int i5), .val (.int i6), .val (.int i7), .val (.int i8), .val (.int i9), .val (.int i10), .val (.ref (n0 + ob11)), .val (.int i12), .val (.int i13), .val (.int i14), .val (.int i15), .val (.ref (n0 + ob16)), .val (.int i17), .val (.int i18), .val (.int i19), .val (.int i20), .val (.ref (n0 + ob21)), .val (.int t0)]) rfl ?_
    exact k
  exact bt0_390 hw hC X0 e0 O0 N0 (by omega) (by omega) hf
def b0_387 (D : Hp) (i6 : Int32) (i7 : Int32) (i17 : Int32) (i18 : Int32) (i19 : Int32) (i20 : Int32) (ob21 : Nat) : Option (Int32 × Hp) :=
  b0_388 D i6 i7 i17 i18 i19 i20 ob21 (0 : Int32)
set_option maxRecDepth 65536 in
set_option maxHeartbeats 40000000 in
theorem bt0_387 {p : Program} {l : Launch} {e : Env} {s : State} {m : MethodId} {args : Array Value} {below : List Frame} {meth : Method} {c : Code} {Z : State} {a0 : Array Value} {n0 : Nat} {D' : Hp} {r : Int32} {T0 : State} {locs : List Loc} {cells slots : Nat} {h0 : Heap} {D : Hp} {i0 : Int32} {i1 : Int32} {i2 : Int32} {i3 : Int32} {i4 : Int32} {i5 : Int32} {i6 : Int32} {i7 : Int32} {i8 : Int32} {i9 : Int32} {i10 : Int32} {ob11 : Nat} {i12 : Int32} {i13 : Int32} {i14 : Int32} {i15 : Int32} {ob16 : Nat} {i17 : Int32} {i18 : Int32} {i19 : Int32} {i20 : Int32} {ob21 : Nat} {i22 : Int32} (hw : ∀ d ∈ tables_1, d.before a0 Z = true) (hC : Cx p s m meth c Z code maxLocals ret "com/example/planar_drawing_kit/planardrawingkit/decomposition/CountingStartsPinLaw" "law") (X0 : Stand p l e room_1 s m args below meth c T0 locs cells slots) (e0 : T0.heap = h0) (O0 : Ow Kt1 Z h0 n0 D) (N0 : Fr n0 locs) (hcc : cells ≤ 3) (hss : slots ≤ 19) (hf : b0_387 D i6 i7 i17 i18 i19 i20 ob21 = some (r, D')) : Gl p e below s 16 128 (Qw Kt1 Z n0 (some (.int r)) D') (T0.setTop (mkF m 387 #[.val (.int i0), .val (.int i1), .val (.int i2), .val (.int i3), .val (.int i4), .val (.int i5), .val (.int i6), .val (.int i7), .val (.int i8), .val (.int i9), .val (.int i10), .val (.ref (n0 + ob11)), .val (.int i12), .val (.int i13), .val (.int i14), .val (.int i15), .val (.ref (n0 + ob16)), .val (.int i17), .val (.int i18), .val (.int i19), .val (.int i20), .val (.ref (n0 + ob21)), .val (.int i22)] [])) := by
  obtain ⟨hx, hZ, hby, hml, hown, hnm, hret, hlk⟩ := id hC
  have hml : c.maxLocals = 23 := hml
  rw [b0_387] at hf
  refine Gl.on (B := T0.setTop (mkF m 388 #[.val (.int i0), .val (.int i1), .val (.int i2), .val (.int i3), .val (.int i4), .val (.int i5), .val (.int i6), .val (.int i7), .val (.int i8), .val (.int i9), .val (.int i10), .val (.ref (n0 + ob11)), .val (.int i12), .val (.int i13), .val (.int i14), .val (.int i15), .val (.ref (n0 + ob16)), .val (.int i17), .val (.int i18), .val (.int i19), .val (.int i20), .val (.ref (n0 + ob21)), .val (.int i22)] [(.int (0 : Int32))])) (fun t k => ?_) ?_
  · show Steps p.tables e below (T0.setTop (mkF m 387 #[.val (.int i0), .val (.int i1), .val (.int i2), .val (.int i3), .val (.int i4), .val (.int i5), .val (.int i6), .val (.int i7), .val (.int i8), .val (.int i9), .val (.int i10), .val (.ref (n0 + ob11)), .val (.int i12), .val (.int i13), .val (.int i14), .val (.int i15), .val (.ref (n0 + ob16)), .val (.int i17), .val (.int i18), .val (.int i19), .val (.int i20), .val (.ref (n0 + ob21)), .val (.int i22)] [])) _
    refine XS.iconst X0.here hx rfl (hb hby at_387) ?_
    exact k
  exact bt0_388 hw hC X0 e0 O0 N0 (by omega) (by omega) hf
def b0_351 (D : Hp) (i6 : Int32) (i7 : Int32) (i17 : Int32) (i18 : Int32) (i19 : Int32) (i20 : Int32) (ob21 : Nat) (i22 : Int32) : Option (Int32 × Hp) :=
  if i6 < (3 : Int32) then (b0_390 D i6 i7 i17 i18 i19 i20 ob21 i22) else (if i22 = (0 : Int32) then (b0_387 D i6 i7 i17 i18 i19 i20 ob21) else ((rI D ob21 0 (3 : Int32)).bind fun x56 =>
  (f3 D i7 i17 i18 i19 i20 (3 : Int32)).bind fun q57 => own_let q57.1 fun x58 => own_let q57.2 fun D57 =>
  if x56 = x58 then (b0_388 D57 i6 i7 i17 i18 i19 i20 ob21 (1 : Int32)) else (b0_387 D57 i6 i7 i17 i18 i19 i20 ob21)))
set_option maxRecDepth 65536 in
set_option maxHeartbeats 40000000 in
theorem bt0_351 {p : Program} {l : Launch} {e : Env} {s : State} {m : MethodId} {args : Array Value} {below : List Frame} {meth : Method} {c : Code} {Z : State} {a0 : Array Value} {n0 : Nat} {D' : Hp} {r : Int32} {T0 : State} {locs : List Loc} {cells slots : Nat} {h0 : Heap} {D : Hp} {i0 : Int32} {i1 : Int32} {i2 : Int32} {i3 : Int32} {i4 : Int32} {i5 : Int32} {i6 : Int32} {i7 : Int32} {i8 : Int32} {i9 : Int32} {i10 : Int32} {ob11 : Nat} {i12 : Int32} {i13 : Int32} {i14 : Int32} {i15 : Int32} {ob16 : Nat} {i17 : Int32} {i18 : Int32} {i19 : Int32} {i20 : Int32} {ob21 : Nat} {i22 : Int32} (hw : ∀ d ∈ tables_1, d.before a0 Z = true) (hC : Cx p s m meth c Z code maxLocals ret "com/example/planar_drawing_kit/planardrawingkit/decomposition/CountingStartsPinLaw" "law") (X0 : Stand p l e room_1 s m args below meth c T0 locs cells slots) (e0 : T0.heap = h0) (O0 : Ow Kt1 Z h0 n0 D) (N0 : Fr n0 locs) (hcc : cells ≤ 3) (hss : slots ≤ 19) (hf : b0_351 D i6 i7 i17 i18 i19 i20 ob21 i22 = some (r, D')) : Gl p e below s 16 128 (Qw Kt1 Z n0 (some (.int r)) D') (T0.setTop (mkF m 351 #[.val (.int i0), .val (.int i1), .val (.int i2), .val (.int i3), .val (.int i4), .val (.int i5), .val (.int i6), .val (.int i7), .val (.int i8), .val (.int i9), .val (.int i10), .val (.ref (n0 + ob11)), .val (.int i12), .val (.int i13), .val (.int i14), .val (.int i15), .val (.ref (n0 + ob16)), .val (.int i17), .val (.int i18), .val (.int i19), .val (.int i20), .val (.ref (n0 + ob21)), .val (.int i22)] [])) := by
  obtain ⟨hx, hZ, hby, hml, hown, hnm, hret, hlk⟩ := id hC
  have hml : c.maxLocals = 23 := hml
  rw [b0_351] at hf
  refine Gl.on (B := T0.setTop (mkF m 354 #[.val (.int i0), .val (.int i1), .val (.int i2), .val (.int i3), .val (.int i4), .val (.int i5), .val (.int i6), .val (.int i7), .val (.int i8), .val (.int i9), .val (.int i10), .val (.ref (n0 + ob11)), .val (.int i12), .val (.int i13), .val (.int i14), .val (.int i15), .val (.ref (n0 + ob16)), .val (.int i17), .val (.int i18), .val (.int i19), .val (.int i20), .val (.ref (n0 + ob21)), .val (.int i22)] [(.int i6), (.int (3 : Int32))])) (fun t k => ?_) ?_
  · show Steps p.tables e below (T0.setTop (mkF m 351 #[.val (.int i0), .val (.int i1), .val (.int i2), .val (.int i3), .val (.int i4), .val (.int i5), .val (.int i6), .val (.int i7), .val (.int i8), .val (.int i9), .val (.int i10), .val (.ref (n0 + ob11)), .val (.int i12), .val (.int i13), .val (.int i14), .val (.int i15), .val (.ref (n0 + ob16)), .val (.int i17), .val (.int i18), .val (.int i19), .val (.int i20), .val (.ref (n0 + ob21)), .val (.int i22)] [])) _
    refine XS.iconst X0.here hx rfl (hb hby at_351) ?_
    show Steps p.tables e below (T0.setTop (mkF m 352 #[.val (.int i0), .val (.int i1), .val (.int i2), .val (.int i3), .val (.int i4), .val (.int i5), .val (.int i6), .val (.int i7), .val (.int i8), .val (.int i9), .val (.int i10), .val (.ref (n0 + ob11)), .val (.int i12), .val (.int i13), .val (.int i14), .val (.int i15), .val (.ref (n0 + ob16)), .val (.int i17), .val (.int i18), .val (.int i19), .val (.int i20), .val (.ref (n0 + ob21)), .val (.int i22)] [(.int (3 : Int32))])) _
    refine XS.iload X0.here hx rfl (hb hby at_352) rfl ?_
    exact k
  by_cases hc54 : i6 < (3 : Int32)
  · rw [if_pos hc54] at hf
    refine Gl.on (B := T0.setTop (mkF m 390 #[.val (.int i0), .val (.int i1), .val (.int i2), .val (.int i3), .val (.int i4), .val (.int i5), .val (.int i6), .val (.int i7), .val (.int i8), .val (.int i9), .val (.int i10), .val (.ref (n0 + ob11)), .val (.int i12), .val (.int i13), .val (.int i14), .val (.int i15), .val (.ref (n0 + ob16)), .val (.int i17), .val (.int i18), .val (.int i19), .val (.int i20), .val (.ref (n0 + ob21)), .val (.int i22)] [])) (fun t k => ?_) ?_
    · show Steps p.tables e below (T0.setTop (mkF m 354 #[.val (.int i0), .val (.int i1), .val (.int i2), .val (.int i3), .val (.int i4), .val (.int i5), .val (.int i6), .val (.int i7), .val (.int i8), .val (.int i9), .val (.int i10), .val (.ref (n0 + ob11)), .val (.int i12), .val (.int i13), .val (.int i14), .val (.int i15), .val (.ref (n0 + ob16)), .val (.int i17), .val (.int i18), .val (.int i19), .val (.int i20), .val (.ref (n0 + ob21)), .val (.int i22)] [(.int i6), (.int (3 : Int32))])) _
      refine XS.icmpYes X0.here hx rfl (pc0 := 354) (pc' := 390) rfl (hb hby at_354) rfl (tlt hc54).2.2.1 (by decide) (by decide) ?_
      exact k
    exact bt0_390 hw hC X0 e0 O0 N0 (by omega) (by omega) hf
  · rw [if_neg hc54] at hf
    refine Gl.on (B := T0.setTop (mkF m 359 #[.val (.int i0), .val (.int i1), .val (.int i2), .val (.int i3), .val (.int i4), .val (.int i5), .val (.int i6), .val (.int i7), .val (.int i8), .val (.int i9), .val (.int i10), .val (.ref (n0 + ob11)), .val (.int i12), .val (.int i13), .val (.int i14), .val (.int i15), .val (.ref (n0 + ob16)), .val (.int i17), .val (.int i18), .val (.int i19), .val (.int i20), .val (.ref (n0 + ob21)), .val (.int i22)] [(.int i22)])) (fun t k => ?_) ?_
    · show Steps p.tables e below (T0.setTop (mkF m 354 #[.val (.int i0), .val (.int i1), .val (.int i2), .val (.int i3), .val (.int i4), .val (.int i5), .val (.int i6), .val (.int i7), .val (.int i8), .val (.int i9), .val (.int i10), .val (.ref (n0 + ob11)), .val (.int i12), .val (.int i13), .val (.int i14), .val (.int i15), .val (.ref (n0 + ob16)), .val (.int i17), .val (.int i18), .val (.int i19), .val (.int i20), .val (.ref (n0 + ob21)), .val (.int i22)] [(.int i6), (.int (3 : Int32))])) _
      refine XS.icmpNo X0.here hx rfl (hb hby at_354) rfl (flt hc54).2.2.1 ?_
      show Steps p.tables e below (T0.setTop (mkF m 357 #[.val (.int i0), .val (.int i1), .val (.int i2), .val (.int i3), .val (.int i4), .val (.int i5), .val (.int i6), .val (.int i7), .val (.int i8), .val (.int i9), .val (.int i10), .val (.ref (n0 + ob11)), .val (.int i12), .val (.int i13), .val (.int i14), .val (.int i15), .val (.ref (n0 + ob16)), .val (.int i17), .val (.int i18), .val (.int i19), .val (.int i20), .val (.ref (n0 + ob21)), .val (.int i22)] [])) _
      refine XS.iload X0.here hx rfl (hb hby at_357) rfl ?_
      exact k
    by_cases hc55 : i22 = (0 : Int32)
    · rw [if_pos hc55] at hf
      refine Gl.on (B := T0.setTop (mkF m 387 #[.val (.int i0), .val (.int i1), .val (.int i2), .val (.int i3), .val (.int i4), .val (.int i5), .val (.int i6), .val (.int i7), .val (.int i8), .val (.int i9), .val (.int i10), .val (.ref (n0 + ob11)), .val (.int i12), .val (.int i13), .val (.int i14), .val (.int i15), .val (.ref (n0 + ob16)), .val (.int i17), .val (.int i18), .val (.int i19), .val (.int i20), .val (.ref (n0 + ob21)), .val (.int i22)] [])) (fun t k => ?_) ?_
      · show Steps p.tables e below (T0.setTop (mkF m 359 #[.val (.int i0), .val (.int i1), .val (.int i2), .val (.int i3), .val (.int i4), .val (.int i5), .val (.int i6), .val (.int i7), .val (.int i8), .val (.int i9), .val (.int i10), .val (.ref (n0 + ob11)), .val (.int i12), .val (.int i13), .val (.int i14), .val (.int i15), .val (.ref (n0 + ob16)), .val (.int i17), .val (.int i18), .val (.int i19), .val (.int i20), .val (.ref (n0 + ob21)), .val (.int i22)] [(.int i22)])) _
        refine XS.ifYes X0.here hx rfl (pc0 := 359) (pc' := 387) rfl (hb hby at_359) rfl ((if0 _ _).trans (teq hc55).1) (by decide) (by decide) ?_
        exact k
      exact bt0_387 hw hC X0 e0 O0 N0 (by omega) (by omega) hf
    · rw [if_neg hc55] at hf
      obtain ⟨x56, hx56, hf⟩ := own_bind hf
      obtain ⟨⟨x58, D57⟩, hq57, hf⟩ := own_bind hf
      obtain ⟨_, rfl, hf⟩ := own_letE hf
      obtain ⟨_, rfl, hf⟩ := own_letE hf
      obtain ⟨T57, h57, L57, X57, e57, O57, N57, st57⟩ := callSW X0 hx hZ (y := (⟨"com/example/planar_drawing_kit/planardrawingkit/decomposition/CountingStartsPinLaw", "below", "(IIIIII)I"⟩ : MethodName)) hown (hw _ (List.mem_of_getElem? (i := 10) rfl)) (hw _ (List.mem_of_getElem? (i := 11) rfl)) (hw _ (List.mem_of_getElem? (i := 4) rfl)) (hw _ (List.mem_of_getElem? (i := 12) rfl)) (by decide) e0 O0 N0 (as' := [(.int i7), (.int i17), (.int i18), (.int i19), (.int i20), (.int (3 : Int32))]) (ct3 hw hq57) (W := 1) (kc := 0) (ks := 0) rfl rfl (by decide) (by decide) (g := (mkF m 377 #[.val (.int i0), .val (.int i1), .val (.int i2), .val (.int i3), .val (.int i4), .val (.int i5), .val (.int i6), .val (.int i7), .val (.int i8), .val (.int i9), .val (.int i10), .val (.ref (n0 + ob11)), .val (.int i12), .val (.int i13), .val (.int i14), .val (.int i15), .val (.ref (n0 + ob16)), .val (.int i17), .val (.int i18), .val (.int i19), .val (.int i20), .val (.ref (n0 + ob21)), .val (.int i22)] [(.int (3 : Int32)), (.int i20), (.int i19), (.int i18), (.int i17), (.int i7), (.int x56)])) rfl (by rw [hml]; rfl) (rest := [(.int x56)]) (lenOf pd_2 rfl) rfl (by show 2 * 0 + _ ≤ _; exact Nat.le_of_eq rfl) (hb hby at_377) (by show _ + 0 ≤ 16; omega) (by show _ + 0 ≤ 128; omega)
      refine Gl.on (B := T57.setTop (mkF m 380 #[.val (.int i0), .val (.int i1), .val (.int i2), .val (.int i3), .val (.int i4), .val (.int i5), .val (.int i6), .val (.int i7), .val (.int i8), .val (.int i9), .val (.int i10), .val (.ref (n0 + ob11)), .val (.int i12), .val (.int i13), .val (.int i14), .val (.int i15), .val (.ref (n0 + ob16)), .val (.int i17), .val (.int i18), .val (.int i19), .val (.int i20), .val (.ref (n0 + ob21)), .val (.int i22)] [(.int x58), (.int x56)])) (fun t k => ?_) ?_
      · show Steps p.tables e below (T0.setTop (mkF m 359 #[.val (.int i0), .val (.int i1), .val (.int i2), .val (.int i3), .val (.int i4), .val (.int i5), .val (.int i6), .val (.int i7), .val (.int i8), .val (.int i9), .val (.int i10), .val (.ref (n0 + ob11)), .val (.int i12), .val (.int i13), .val (.int i14), .val (.int i15), .val (.ref (n0 + ob16)), .val (.int i17), .val (.int i18), .val (.int i19), .val (.int i20), .val (.ref (n0 + ob21)), .val (.int i22)] [(.int i22)])) _
        refine XS.ifNo X0.here hx rfl (hb hby at_359) rfl ((if0 _ _).trans (feq hc55).1) ?_
        show Steps p.tables e below (T0.setTop (mkF m 362 #[.val (.int i0), .val (.int i1), .val (.int i2), .val (.int i3), .val (.int i4), .val (.int i5), .val (.int i6), .val (.int i7), .val (.int i8), .val (.int i9), .val (.int i10), .val (.ref (n0 + ob11)), .val (.int i12), .val (.int i13), .val (.int i14), .val (.int i15), .val (.ref (n0 + ob16)), .val (.int i17), .val (.int i18), .val (.int i19), .val (.int i20), .val (.ref (n0 + ob21)), .val (.int i22)] [])) _
        refine XS.aload X0.here hx rfl (hb hby at_362) rfl rfl ?_
        show Steps p.tables e below (T0.setTop (mkF m 364 #[.val (.int i0), .val (.int i1), .val (.int i2), .val (.int i3), .val (.int i4), .val (.int i5), .val (.int i6), .val (.int i7), .val (.int i8), .val (.int i9), .val (.int i10), .val (.ref (n0 + ob11)), .val (.int i12), .val (.int i13), .val (.int i14), .val (.int i15), .val (.ref (n0 + ob16)), .val (.int i17), .val (.int i18), .val (.int i19), .val (.int i20), .val (.ref (n0 + ob21)), .val (.int i22)] [(.ref (n0 + ob21))])) _
        refine XS.iconst X0.here hx rfl (hb hby at_364) ?_
        show Steps p.tables e below (T0.setTop (mkF m 365 #[.val (.int i0), .val (.int i1), .val (.int i2), .val (.int i3), .val (.int i4), .val (.int i5), .val (.int i6), .val (.int i7), .val (.int i8), .val (.int i9), .val (.int i10), .val (.ref (n0 + ob11)), .val (.int i12), .val (.int i13), .val (.int i14), .val (.int i15), .val (.ref (n0 + ob16)), .val (.int i17), .val (.int i18), .val (.int i19), .val (.int i20), .val (.ref (n0 + ob21)), .val (.int i22)] [(.int (3 : Int32)), (.ref (n0 + ob21))])) _
        refine ldW X0 hx hZ e0 O0 hx56 rfl (g := (mkF m 365 #[.val (.int i0), .val (.int i1), .val (.int i2), .val (.int i3), .val (.int i4), .val (.int i5), .val (.int i6), .val (.int i7), .val (.int i8), .val (.int i9), .val (.int i10), .val (.ref (n0 + ob11)), .val (.int i12), .val (.int i13), .val (.int i14), .val (.int i15), .val (.ref (n0 + ob16)), .val (.int i17), .val (.int i18), .val (.int i19), .val (.int i20), .val (.ref (n0 + ob21)), .val (.int i22)] [(.int (3 : Int32)), (.ref (n0 + ob21))])) rfl rfl (hb hby at_365) _ ?_
        show Steps p.tables e below (T0.setTop (mkF m 366 #[.val (.int i0), .val (.int i1), .val (.int i2), .val (.int i3), .val (.int i4), .val (.int i5), .val (.int i6), .val (.int i7), .val (.int i8), .val (.int i9), .val (.int i10), .val (.ref (n0 + ob11)), .val (.int i12), .val (.int i13), .val (.int i14), .val (.int i15), .val (.ref (n0 + ob16)), .val (.int i17), .val (.int i18), .val (.int i19), .val (.int i20), .val (.ref (n0 + ob21)), .val (.int i22)] [(.int x56)])) _
        refine XS.iload X0.here hx rfl (hb hby at_366) rfl ?_
        show Steps p.tables e below (T0.setTop (mkF m 368 #[.val (.int i0), .val (.int i1), .val (.int i2), .val (.int i3), .val (.int i4), .val (.int i5), .val (.int i6), .val (.int i7), .val (.int i8), .val (.int i9), .val (.int i10), .val (.ref (n0 + ob11)), .val (.int i12), .val (.int i13), .val (.int i14), .val (.int i15), .val (.ref (n0 + ob16)), .val (.int i17), .val (.int i18), .val (.int i19), .val (.int i20), .val (.ref (n0 + ob21)), .val (.int i22)] [(.int i7), (.int x56)])) _
        refine XS.iload X0.here hx rfl (hb hby at_368) rfl ?_
        show Steps p.tables e below (T0.setTop (mkF m 370 #[.val (.int i0), .val (.int i1), .val (.int i2), .val (.int i3), .val (.int i4), .val (.int i5), .val (.int i6), .val (.int i7), .val (.int i8), .val (.int i9), .val (.int i10), .val (.ref (n0 + ob11)), .val (.int i12), .val (.int i13), .val (.int i14), .val (.int i15), .val (.ref (n0 + ob16)), .val (.int i17), .val (.int i18), .val (.int i19), .val (.int i20), .val (.ref (n0 + ob21)), .val (.int i22)] [(.int i17), (.int i7), (.int x56)])) _
        refine XS.iload X0.here hx rfl (hb hby at_370) rfl ?_
        show Steps p.tables e below (T0.setTop (mkF m 372 #[.val (.int i0), .val (.int i1), .val (.int i2), .val (.int i3), .val (.int i4), .val (.int i5), .val (.int i6), .val (.int i7), .val (.int i8), .val (.int i9), .val (.int i10), .val (.ref (n0 + ob11)), .val (.int i12), .val (.int i13), .val (.int i14), .val (.int i15), .val (.ref (n0 + ob16)), .val (.int i17), .val (.int i18), .val (.int i19), .val (.int i20), .val (.ref (n0 + ob21)), .val (.int i22)] [(.int i18), (.int i17), (.int i7), (.int x56)])) _
        refine XS.iload X0.here hx rfl (hb hby at_372) rfl ?_
        show Steps p.tables e below (T0.setTop (mkF m 374 #[.val (.int i0), .val (.int i1), .val (.int i2), .val (.int i3), .val (.int i4), .val (.int i5), .val (.int i6), .val (.int i7), .val (.int i8), .val (.int i9), .val (.int i10), .val (.ref (n0 + ob11)), .val (.int i12), .val (.int i13), .val (.int i14), .val (.int i15), .val (.ref (n0 + ob16)), .val (.int i17), .val (.int i18), .val (.int i19), .val (.int i20), .val (.ref (n0 + ob21)), .val (.int i22)] [(.int i19), (.int i18), (.int i17), (.int i7), (.int x56)])) _
        refine XS.iload X0.here hx rfl (hb hby at_374) rfl ?_
        show Steps p.tables e below (T0.setTop (mkF m 376 #[.val (.int i0), .val (.int i1), .val (.int i2), .val (.int i3), .val (.int i4), .val (.int i5), .val (.int i6), .val (.int i7), .val (.int i8), .val (.int i9), .val (.int i10), .val (.ref (n0 + ob11)), .val (.int i12), .val (.int i13), .val (.int i14), .val (.int i15), .val (.ref (n0 + ob16)), .val (.int i17), .val (.int i18), .val (.int i19), .val (.int i20), .val (.ref (n0 + ob21)), .val (.int i22)] [(.int i20), (.int i19), (.int i18), (.int i17), (.int i7), (.int x56)])) _
        refine XS.iconst X0.here hx rfl (hb hby at_376) ?_
        show Steps p.tables e below (T0.setTop (mkF m 377 #[.val (.int i0), .val (.int i1), .val (.int i2), .val (.int i3), .val (.int i4), .val (.int i5), .val (.int i6), .val (.int i7), .val (.int i8), .val (.int i9), .val (.int i10), .val (.ref (n0 + ob11)), .val (.int i12), .val (.int i13), .val (.int i14), .val (.int i15), .val (.ref (n0 + ob16)), .val (.int i17), .val (.int i18), .val (.int i19), .val (.int i20), .val (.ref (n0 + ob21)), .val (.int i22)] [(.int (3 : Int32)), (.int i20), (.int i19), (.int i18), (.int i17), (.int i7), (.int x56)])) _
        refine st57 _ ?_
        exact k
      by_cases hc59 : x56 = x58
      · rw [if_pos hc59] at hf
        refine Gl.on (B := T57.setTop (mkF m 388 #[.val (.int i0), .val (.int i1), .val (.int i2), .val (.int i3), .val (.int i4), .val (.int i5), .val (.int i6), .val (.int i7), .val (.int i8), .val (.int i9), .val (.int i10), .val (.ref (n0 + ob11)), .val (.int i12), .val (.int i13), .val (.int i14), .val (.int i15), .val (.ref (n0 + ob16)), .val (.int i17), .val (.int i18), .val (.int i19), .val (.int i20), .val (.ref (n0 + ob21)), .val (.int i22)] [(.int (1 : Int32))])) (fun t k => ?_) ?_
        · show Steps p.tables e below (T57.setTop (mkF m 380 #[.val (.int i0), .val (.int i1), .val (.int i2), .val (.int i3), .val (.int i4), .val (.int i5), .val (.int i6), .val (.int i7), .val (.int i8), .val (.int i9), .val (.int i10), .val (.ref (n0 + ob11)), .val (.int i12), .val (.int i13), .val (.int i14), .val (.int i15), .val (.ref (n0 + ob16)), .val (.int i17), .val (.int i18), .val (.int i19), .val (.int i20), .val (.ref (n0 + ob21)), .val (.int i22)] [(.int x58), (.int x56)])) _
          refine XS.icmpNo X57.here hx rfl (hb hby at_380) rfl (teq hc59).2 ?_
          show Steps p.tables e below (T57.setTop (mkF m 383 #[.val (.int i0), .val (.int i1), .val (.int i2), .val (.int i3), .val (.int i4), .val (.int i5), .val (.int i6), .val (.int i7), .val (.int i8), .val (.int i9), .val (.int i10), .val (.ref (n0 + ob11)), .val (.int i12), .val (.int i13), .val (.int i14), .val (.int i15), .val (.ref (n0 + ob16)), .val (.int i17), .val (.int i18), .val (.int i19), .val (.int i20), .val (.ref (n0 + ob21)), .val (.int i22)] [])) _
          refine XS.iconst X57.here hx rfl (hb hby at_383) ?_
          show Steps p.tables e below (T57.setTop (mkF m 384 #[.val (.int i0), .val (.int i1), .val (.int i2), .val (.int i3), .val (.int i4), .val (.int i5), .val (.int i6), .val (.int i7), .val (.int i8), .val (.int i9), .val (.int i10), .val (.ref (n0 + ob11)), .val (.int i12), .val (.int i13), .val (.int i14), .val (.int i15), .val (.ref (n0 + ob16)), .val (.int i17), .val (.int i18), .val (.int i19), .val (.int i20), .val (.ref (n0 + ob21)), .val (.int i22)] [(.int (1 : Int32))])) _
          refine XS.goto X57.here hx rfl (pc0 := 384) (pc' := 388) rfl (hb hby at_384) (by decide) (by decide) ?_
          exact k
        exact bt0_388 hw hC X57 e57 O57 N57 (by omega) (by omega) hf
      · rw [if_neg hc59] at hf
        refine Gl.on (B := T57.setTop (mkF m 387 #[.val (.int i0), .val (.int i1), .val (.int i2), .val (.int i3), .val (.int i4), .val (.int i5), .val (.int i6), .val (.int i7), .val (.int i8), .val (.int i9), .val (.int i10), .val (.ref (n0 + ob11)), .val (.int i12), .val (.int i13), .val (.int i14), .val (.int i15), .val (.ref (n0 + ob16)), .val (.int i17), .val (.int i18), .val (.int i19), .val (.int i20), .val (.ref (n0 + ob21)), .val (.int i22)] [])) (fun t k => ?_) ?_
        · show Steps p.tables e below (T57.setTop (mkF m 380 #[.val (.int i0), .val (.int i1), .val (.int i2), .val (.int i3), .val (.int i4), .val (.int i5), .val (.int i6), .val (.int i7), .val (.int i8), .val (.int i9), .val (.int i10), .val (.ref (n0 + ob11)), .val (.int i12), .val (.int i13), .val (.int i14), .val (.int i15), .val (.ref (n0 + ob16)), .val (.int i17), .val (.int i18), .val (.int i19), .val (.int i20), .val (.ref (n0 + ob21)), .val (.int i22)] [(.int x58), (.int x56)])) _
          refine XS.icmpYes X57.here hx rfl (pc0 := 380) (pc' := 387) rfl (hb hby at_380) rfl (feq hc59).2 (by decide) (by decide) ?_
          exact k
        exact bt0_387 hw hC X57 e57 O57 N57 (by omega) (by omega) hf
def b0_349 (D : Hp) (i6 : Int32) (i7 : Int32) (i17 : Int32) (i18 : Int32) (i19 : Int32) (i20 : Int32) (ob21 : Nat) (t0 : Int32) : Option (Int32 × Hp) :=
  b0_351 D i6 i7 i17 i18 i19 i20 ob21 t0
set_option maxRecDepth 65536 in
set_option maxHeartbeats 40000000 in
theorem bt0_349 {p : Program} {l : Launch} {e : Env} {s : State} {m : MethodId} {args : Array Value} {below : List Frame} {meth : Method} {c : Code} {Z : State} {a0 : Array Value} {n0 : Nat} {D' : Hp} {r : Int32} {T0 : State} {locs : List Loc} {cells slots : Nat} {h0 : Heap} {D : Hp} {i0 : Int32} {i1 : Int32} {i2 : Int32} {i3 : Int32} {i4 : Int32} {i5 : Int32} {i6 : Int32} {i7 : Int32} {i8 : Int32} {i9 : Int32} {i10 : Int32} {ob11 : Nat} {i12 : Int32} {i13 : Int32} {i14 : Int32} {i15 : Int32} {ob16 : Nat} {i17 : Int32} {i18 : Int32} {i19 : Int32} {i20 : Int32} {ob21 : Nat} {i22 : Int32} {t0 : Int32} (hw : ∀ d ∈ tables_1, d.before a0 Z = true) (hC : Cx p s m meth c Z code maxLocals ret "com/example/planar_drawing_kit/planardrawingkit/decomposition/CountingStartsPinLaw" "law") (X0 : Stand p l e room_1 s m args below meth c T0 locs cells slots) (e0 : T0.heap = h0) (O0 : Ow Kt1 Z h0 n0 D) (N0 : Fr n0 locs) (hcc : cells ≤ 3) (hss : slots ≤ 19) (hf : b0_349 D i6 i7 i17 i18 i19 i20 ob21 t0 = some (r, D')) : Gl p e below s 16 128 (Qw Kt1 Z n0 (some (.int r)) D') (T0.setTop (mkF m 349 #[.val (.int i0), .val (.int i1), .val (.int i2), .val (.int i3), .val (.int i4), .val (.int i5), .val (.int i6), .val (.int i7), .val (.int i8), .val (.int i9), .val (.int i10), .val (.ref (n0 + ob11)), .val (.int i12), .val (.int i13), .val (.int i14), .val (.int i15), .val (.ref (n0 + ob16)), .val (.int i17), .val (.int i18), .val (.int i19), .val (.int i20), .val (.ref (n0 + ob21)), .val (.int i22)] [(.int t0)])) := by
  obtain ⟨hx, hZ, hby, hml, hown, hnm, hret, hlk⟩ := id hC
  have hml : c.maxLocals = 23 := hml
  rw [b0_349] at hf
  refine Gl.on (B := T0.setTop (mkF m 351 #[.val (.int i0), .val (.int i1), .val (.int i2), .val (.int i3), .val (.int i4), .val (.int i5), .val (.int i6), .val (.int i7), .val (.int i8), .val (.int i9), .val (.int i10), .val (.ref (n0 + ob11)), .val (.int i12), .val (.int i13), .val (.int i14), .val (.int i15), .val (.ref (n0 + ob16)), .val (.int i17), .val (.int i18), .val (.int i19), .val (.int i20), .val (.ref (n0 + ob21)), .val (.int t0)] [])) (fun t k => ?_) ?_
  · show Steps p.tables e below (T0.setTop (mkF m 349 #[.val (.int i0), .val (.int i1), .val (.int i2), .val (.int i3), .val (.int i4), .val (.int i5), .val (.int i6), .val (.int i7), .val (.int i8), .val (.int i9), .val (.int i10), .val (.ref (n0 + ob11)), .val (.int i12), .val (.int i13), .val (.int i14), .val (.int i15), .val (.ref (n0 + ob16)), .val (.int i17), .val (.int i18), .val (.int i19), .val (.int i20), .val (.ref (n0 + ob21)), .val (.int i22)] [(.int t0)])) _
    refine XS.istore X0.here hx rfl (hb hby at_349) rfl (l' := #[.val (.int i0), .val (.int i1), .val (.int i2), .val (.int i3), .val (.int i4), .val (.int i5), .val (.int i6), .val (.int i7), .val (.int i8), .val (.int i9), .val (.int i10), .val (.ref (n0 + ob11)), .val (.int i12), .val (.int i13), .val (.int i14), .val (.int i15), .val (.ref (n0 + ob16)), .val (.int i17), .val (.int i18), .val (.int i19), .val (.int i20), .val (.ref (n0 + ob21)), .val (.int t0)]) rfl ?_
    exact k
  exact bt0_351 hw hC X0 e0 O0 N0 (by omega) (by omega) hf
def b0_348 (D : Hp) (i6 : Int32) (i7 : Int32) (i17 : Int32) (i18 : Int32) (i19 : Int32) (i20 : Int32) (ob21 : Nat) : Option (Int32 × Hp) :=
  b0_349 D i6 i7 i17 i18 i19 i20 ob21 (0 : Int32)
set_option maxRecDepth 65536 in
set_option maxHeartbeats 40000000 in
theorem bt0_348 {p : Program} {l : Launch} {e : Env} {s : State} {m : MethodId} {args : Array Value} {below : List Frame} {meth : Method} {c : Code} {Z : State} {a0 : Array Value} {n0 : Nat} {D' : Hp} {r : Int32} {T0 : State} {locs : List Loc} {cells slots : Nat} {h0 : Heap} {D : Hp} {i0 : Int32} {i1 : Int32} {i2 : Int32} {i3 : Int32} {i4 : Int32} {i5 : Int32} {i6 : Int32} {i7 : Int32} {i8 : Int32} {i9 : Int32} {i10 : Int32} {ob11 : Nat} {i12 : Int32} {i13 : Int32} {i14 : Int32} {i15 : Int32} {ob16 : Nat} {i17 : Int32} {i18 : Int32} {i19 : Int32} {i20 : Int32} {ob21 : Nat} {i22 : Int32} (hw : ∀ d ∈ tables_1, d.before a0 Z = true) (hC : Cx p s m meth c Z code maxLocals ret "com/example/planar_drawing_kit/planardrawingkit/decomposition/CountingStartsPinLaw" "law") (X0 : Stand p l e room_1 s m args below meth c T0 locs cells slots) (e0 : T0.heap = h0) (O0 : Ow Kt1 Z h0 n0 D) (N0 : Fr n0 locs) (hcc : cells ≤ 3) (hss : slots ≤ 19) (hf : b0_348 D i6 i7 i17 i18 i19 i20 ob21 = some (r, D')) : Gl p e below s 16 128 (Qw Kt1 Z n0 (some (.int r)) D') (T0.setTop (mkF m 348 #[.val (.int i0), .val (.int i1), .val (.int i2), .val (.int i3), .val (.int i4), .val (.int i5), .val (.int i6), .val (.int i7), .val (.int i8), .val (.int i9), .val (.int i10), .val (.ref (n0 + ob11)), .val (.int i12), .val (.int i13), .val (.int i14), .val (.int i15), .val (.ref (n0 + ob16)), .val (.int i17), .val (.int i18), .val (.int i19), .val (.int i20), .val (.ref (n0 + ob21)), .val (.int i22)] [])) := by
  obtain ⟨hx, hZ, hby, hml, hown, hnm, hret, hlk⟩ := id hC
  have hml : c.maxLocals = 23 := hml
  rw [b0_348] at hf
  refine Gl.on (B := T0.setTop (mkF m 349 #[.val (.int i0), .val (.int i1), .val (.int i2), .val (.int i3), .val (.int i4), .val (.int i5), .val (.int i6), .val (.int i7), .val (.int i8), .val (.int i9), .val (.int i10), .val (.ref (n0 + ob11)), .val (.int i12), .val (.int i13), .val (.int i14), .val (.int i15), .val (.ref (n0 + ob16)), .val (.int i17), .val (.int i18), .val (.int i19), .val (.int i20), .val (.ref (n0 + ob21)), .val (.int i22)] [(.int (0 : Int32))])) (fun t k => ?_) ?_
  · show Steps p.tables e below (T0.setTop (mkF m 348 #[.val (.int i0), .val (.int i1), .val (.int i2), .val (.int i3), .val (.int i4), .val (.int i5), .val (.int i6), .val (.int i7), .val (.int i8), .val (.int i9), .val (.int i10), .val (.ref (n0 + ob11)), .val (.int i12), .val (.int i13), .val (.int i14), .val (.int i15), .val (.ref (n0 + ob16)), .val (.int i17), .val (.int i18), .val (.int i19), .val (.int i20), .val (.ref (n0 + ob21)), .val (.int i22)] [])) _
    refine XS.iconst X0.here hx rfl (hb hby at_348) ?_
    exact k
  exact bt0_349 hw hC X0 e0 O0 N0 (by omega) (by omega) hf
def b0_312 (D : Hp) (i6 : Int32) (i7 : Int32) (i17 : Int32) (i18 : Int32) (i19 : Int32) (i20 : Int32) (ob21 : Nat) (i22 : Int32) : Option (Int32 × Hp) :=
  if i6 < (2 : Int32) then (b0_351 D i6 i7 i17 i18 i19 i20 ob21 i22) else (if i22 = (0 : Int32) then (b0_348 D i6 i7 i17 i18 i19 i20 ob21) else ((rI D ob21 0 (2 : Int32)).bind fun x50 =>
  (f3 D i7 i17 i18 i19 i20 (2 : Int32)).bind fun q51 => own_let q51.1 fun x52 => own_let q51.2 fun D51 =>
  if x50 = x52 then (b0_349 D51 i6 i7 i17 i18 i19 i20 ob21 (1 : Int32)) else (b0_348 D51 i6 i7 i17 i18 i19 i20 ob21)))
set_option maxRecDepth 65536 in
set_option maxHeartbeats 40000000 in
theorem bt0_312 {p : Program} {l : Launch} {e : Env} {s : State} {m : MethodId} {args : Array Value} {below : List Frame} {meth : Method} {c : Code} {Z : State} {a0 : Array Value} {n0 : Nat} {D' : Hp} {r : Int32} {T0 : State} {locs : List Loc} {cells slots : Nat} {h0 : Heap} {D : Hp} {i0 : Int32} {i1 : Int32} {i2 : Int32} {i3 : Int32} {i4 : Int32} {i5 : Int32} {i6 : Int32} {i7 : Int32} {i8 : Int32} {i9 : Int32} {i10 : Int32} {ob11 : Nat} {i12 : Int32} {i13 : Int32} {i14 : Int32} {i15 : Int32} {ob16 : Nat} {i17 : Int32} {i18 : Int32} {i19 : Int32} {i20 : Int32} {ob21 : Nat} {i22 : Int32} (hw : ∀ d ∈ tables_1, d.before a0 Z = true) (hC : Cx p s m meth c Z code maxLocals ret "com/example/planar_drawing_kit/planardrawingkit/decomposition/CountingStartsPinLaw" "law") (X0 : Stand p l e room_1 s m args below meth c T0 locs cells slots) (e0 : T0.heap = h0) (O0 : Ow Kt1 Z h0 n0 D) (N0 : Fr n0 locs) (hcc : cells ≤ 3) (hss : slots ≤ 19) (hf : b0_312 D i6 i7 i17 i18 i19 i20 ob21 i22 = some (r, D')) : Gl p e below s 16 128 (Qw Kt1 Z n0 (some (.int r)) D') (T0.setTop (mkF m 312 #[.val (.int i0), .val (.int i1), .val (.int i2), .val (.int i3), .val (.int i4), .val (.int i5), .val (.int i6), .val (.int i7), .val (.int i8), .val (.int i9), .val (.int i10), .val (.ref (n0 + ob11)), .val (.int i12), .val (.int i13), .val (.int i14), .val (.int i15), .val (.ref (n0 + ob16)), .val (.int i17), .val (.int i18), .val (.int i19), .val (.int i20), .val (.ref (n0 + ob21)), .val (.int i22)] [])) := by
  obtain ⟨hx, hZ, hby, hml, hown, hnm, hret, hlk⟩ := id hC
  have hml : c.maxLocals = 23 := hml
  rw [b0_312] at hf
  refine Gl.on (B := T0.setTop (mkF m 315 #[.val (.int i0), .val (.int i1), .val (.int i2), .val (.int i3), .val (.int i4), .val (.int i5), .val (.int i6), .val (.int i7), .val (.int i8), .val (.int i9), .val (.int i10), .val (.ref (n0 + ob11)), .val (.int i12), .val (.int i13), .val (.int i14), .val (.int i15), .val (.ref (n0 + ob16)), .val (.int i17), .val (.int i18), .val (.int i19), .val (.int i20), .val (.ref (n0 + ob21)), .val (.int i22)] [(.int i6), (.int (2 : Int32))])) (fun t k => ?_) ?_
  · show Steps p.tables e below (T0.setTop (mkF m 312 #[.val (.int i0), .val (.int i1), .val (.int i2), .val (.int i3), .val (.int i4), .val (.int i5), .val (.int i6), .val (.int i7), .val (.int i8), .val (.int i9), .val (.int i10), .val (.ref (n0 + ob11)), .val (.int i12), .val (.int i13), .val (.int i14), .val (.int i15), .val (.ref (n0 + ob16)), .val (.int i17), .val (.int i18), .val (.int i19), .val (.int i20), .val (.ref (n0 + ob21)), .val (.int i22)] [])) _
    refine XS.iconst X0.here hx rfl (hb hby at_312) ?_
    show Steps p.tables e below (T0.setTop (mkF m 313 #[.val (.int i0), .val (.int i1), .val (.int i2), .val (.int i3), .val (.int i4), .val (.int i5), .val (.int i6), .val (.int i7), .val (.int i8), .val (.int i9), .val (.int i10), .val (.ref (n0 + ob11)), .val (.int i12), .val (.int i13), .val (.int i14), .val (.int i15), .val (.ref (n0 + ob16)), .val (.int i17), .val (.int i18), .val (.int i19), .val (.int i20), .val (.ref (n0 + ob21)), .val (.int i22)] [(.int (2 : Int32))])) _
    refine XS.iload X0.here hx rfl (hb hby at_313) rfl ?_
    exact k
  by_cases hc48 : i6 < (2 : Int32)
  · rw [if_pos hc48] at hf
    refine Gl.on (B := T0.setTop (mkF m 351 #[.val (.int i0), .val (.int i1), .val (.int i2), .val (.int i3), .val (.int i4), .val (.int i5), .val (.int i6), .val (.int i7), .val (.int i8), .val (.int i9), .val (.int i10), .val (.ref (n0 + ob11)), .val (.int i12), .val (.int i13), .val (.int i14), .val (.int i15), .val (.ref (n0 + ob16)), .val (.int i17), .val (.int i18), .val (.int i19), .val (.int i20), .val (.ref (n0 + ob21)), .val (.int i22)] [])) (fun t k => ?_) ?_
    · show Steps p.tables e below (T0.setTop (mkF m 315 #[.val (.int i0), .val (.int i1), .val (.int i2), .val (.int i3), .val (.int i4), .val (.int i5), .val (.int i6), .val (.int i7), .val (.int i8), .val (.int i9), .val (.int i10), .val (.ref (n0 + ob11)), .val (.int i12), .val (.int i13), .val (.int i14), .val (.int i15), .val (.ref (n0 + ob16)), .val (.int i17), .val (.int i18), .val (.int i19), .val (.int i20), .val (.ref (n0 + ob21)), .val (.int i22)] [(.int i6), (.int (2 : Int32))])) _
      refine XS.icmpYes X0.here hx rfl (pc0 := 315) (pc' := 351) rfl (hb hby at_315) rfl (tlt hc48).2.2.1 (by decide) (by decide) ?_
      exact k
    exact bt0_351 hw hC X0 e0 O0 N0 (by omega) (by omega) hf
  · rw [if_neg hc48] at hf
    refine Gl.on (B := T0.setTop (mkF m 320 #[.val (.int i0), .val (.int i1), .val (.int i2), .val (.int i3), .val (.int i4), .val (.int i5), .val (.int i6), .val (.int i7), .val (.int i8), .val (.int i9), .val (.int i10), .val (.ref (n0 + ob11)), .val (.int i12), .val (.int i13), .val (.int i14), .val (.int i15), .val (.ref (n0 + ob16)), .val (.int i17), .val (.int i18), .val (.int i19), .val (.int i20), .val (.ref (n0 + ob21)), .val (.int i22)] [(.int i22)])) (fun t k => ?_) ?_
    · show Steps p.tables e below (T0.setTop (mkF m 315 #[.val (.int i0), .val (.int i1), .val (.int i2), .val (.int i3), .val (.int i4), .val (.int i5), .val (.int i6), .val (.int i7), .val (.int i8), .val (.int i9), .val (.int i10), .val (.ref (n0 + ob11)), .val (.int i12), .val (.int i13), .val (.int i14), .val (.int i15), .val (.ref (n0 + ob16)), .val (.int i17), .val (.int i18), .val (.int i19), .val (.int i20), .val (.ref (n0 + ob21)), .val (.int i22)] [(.int i6), (.int (2 : Int32))])) _
      refine XS.icmpNo X0.here hx rfl (hb hby at_315) rfl (flt hc48).2.2.1 ?_
      show Steps p.tables e below (T0.setTop (mkF m 318 #[.val (.int i0), .val (.int i1), .val (.int i2), .val (.int i3), .val (.int i4), .val (.int i5), .val (.int i6), .val (.int i7), .val (.int i8), .val (.int i9), .val (.int i10), .val (.ref (n0 + ob11)), .val (.int i12), .val (.int i13), .val (.int i14), .val (.int i15), .val (.ref (n0 + ob16)), .val (.int i17), .val (.int i18), .val (.int i19), .val (.int i20), .val (.ref (n0 + ob21)), .val (.int i22)] [])) _
      refine XS.iload X0.here hx rfl (hb hby at_318) rfl ?_
      exact k
    by_cases hc49 : i22 = (0 : Int32)
    · rw [if_pos hc49] at hf
      refine Gl.on (B := T0.setTop (mkF m 348 #[.val (.int i0), .val (.int i1), .val (.int i2), .val (.int i3), .val (.int i4), .val (.int i5), .val (.int i6), .val (.int i7), .val (.int i8), .val (.int i9), .val (.int i10), .val (.ref (n0 + ob11)), .val (.int i12), .val (.int i13), .val (.int i14), .val (.int i15), .val (.ref (n0 + ob16)), .val (.int i17), .val (.int i18), .val (.int i19), .val (.int i20), .val (.ref (n0 + ob21)), .val (.int i22)] [])) (fun t k => ?_) ?_
      · show Steps p.tables e below (T0.setTop (mkF m 320 #[.val (.int i0), .val (.int i1), .val (.int i2), .val (.int i3), .val (.int i4), .val (.int i5), .val (.int i6), .val (.int i7), .val (.int i8), .val (.int i9), .val (.int i10), .val (.ref (n0 + ob11)), .val (.int i12), .val (.int i13), .val (.int i14), .val (.int i15), .val (.ref (n0 + ob16)), .val (.int i17), .val (.int i18), .val (.int i19), .val (.int i20), .val (.ref (n0 + ob21)), .val (.int i22)] [(.int i22)])) _
        refine XS.ifYes X0.here hx rfl (pc0 := 320) (pc' := 348) rfl (hb hby at_320) rfl ((if0 _ _).trans (teq hc49).1) (by decide) (by decide) ?_
        exact k
      exact bt0_348 hw hC X0 e0 O0 N0 (by omega) (by omega) hf
    · rw [if_neg hc49] at hf
      obtain ⟨x50, hx50, hf⟩ := own_bind hf
      obtain ⟨⟨x52, D51⟩, hq51, hf⟩ := own_bind hf
      obtain ⟨_, rfl, hf⟩ := own_letE hf
      obtain ⟨_, rfl, hf⟩ := own_letE hf
      obtain ⟨T51, h51, L51, X51, e51, O51, N51, st51⟩ := callSW X0 hx hZ (y := (⟨"com/example/planar_drawing_kit/planardrawingkit/decomposition/CountingStartsPinLaw", "below", "(IIIIII)I"⟩ : MethodName)) hown (hw _ (List.mem_of_getElem? (i := 10) rfl)) (hw _ (List.mem_of_getElem? (i := 11) rfl)) (hw _ (List.mem_of_getElem? (i := 4) rfl)) (hw _ (List.mem_of_getElem? (i := 12) rfl)) (by decide) e0 O0 N0 (as' := [(.int i7), (.int i17), (.int i18), (.int i19), (.int i20), (.int (2 : Int32))]) (ct3 hw hq51) (W := 1) (kc := 0) (ks := 0) rfl rfl (by decide) (by decide) (g := (mkF m 338 #[.val (.int i0), .val (.int i1), .val (.int i2), .val (.int i3), .val (.int i4), .val (.int i5), .val (.int i6), .val (.int i7), .val (.int i8), .val (.int i9), .val (.int i10), .val (.ref (n0 + ob11)), .val (.int i12), .val (.int i13), .val (.int i14), .val (.int i15), .val (.ref (n0 + ob16)), .val (.int i17), .val (.int i18), .val (.int i19), .val (.int i20), .val (.ref (n0 + ob21)), .val (.int i22)] [(.int (2 : Int32)), (.int i20), (.int i19), (.int i18), (.int i17), (.int i7), (.int x50)])) rfl (by rw [hml]; rfl) (rest := [(.int x50)]) (lenOf pd_2 rfl) rfl (by show 2 * 0 + _ ≤ _; exact Nat.le_of_eq rfl) (hb hby at_338) (by show _ + 0 ≤ 16; omega) (by show _ + 0 ≤ 128; omega)
      refine Gl.on (B := T51.setTop (mkF m 341 #[.val (.int i0), .val (.int i1), .val (.int i2), .val (.int i3), .val (.int i4), .val (.int i5), .val (.int i6), .val (.int i7), .val (.int i8), .val (.int i9), .val (.int i10), .val (.ref (n0 + ob11)), .val (.int i12), .val (.int i13), .val (.int i14), .val (.int i15), .val (.ref (n0 + ob16)), .val (.int i17), .val (.int i18), .val (.int i19), .val (.int i20), .val (.ref (n0 + ob21)), .val (.int i22)] [(.int x52), (.int x50)])) (fun t k => ?_) ?_
      · show Steps p.tables e below (T0.setTop (mkF m 320 #[.val (.int i0), .val (.int i1), .val (.int i2), .val (.int i3), .val (.int i4), .val (.int i5), .val (.int i6), .val (.int i7), .val (.int i8), .val (.int i9), .val (.int i10), .val (.ref (n0 + ob11)), .val (.int i12), .val (.int i13), .val (.int i14), .val (.int i15), .val (.ref (n0 + ob16)), .val (.int i17), .val (.int i18), .val (.int i19), .val (.int i20), .val (.ref (n0 + ob21)), .val (.int i22)] [(.int i22)])) _
        refine XS.ifNo X0.here hx rfl (hb hby at_320) rfl ((if0 _ _).trans (feq hc49).1) ?_
        show Steps p.tables e below (T0.setTop (mkF m 323 #[.val (.int i0), .val (.int i1), .val (.int i2), .val (.int i3), .val (.int i4), .val (.int i5), .val (.int i6), .val (.int i7), .val (.int i8), .val (.int i9), .val (.int i10), .val (.ref (n0 + ob11)), .val (.int i12), .val (.int i13), .val (.int i14), .val (.int i15), .val (.ref (n0 + ob16)), .val (.int i17), .val (.int i18), .val (.int i19), .val (.int i20), .val (.ref (n0 + ob21)), .val (.int i22)] [])) _
        refine XS.aload X0.here hx rfl (hb hby at_323) rfl rfl ?_
        show Steps p.tables e below (T0.setTop (mkF m 325 #[.val (.int i0), .val (.int i1), .val (.int i2), .val (.int i3), .val (.int i4), .val (.int i5), .val (.int i6), .val (.int i7), .val (.int i8), .val (.int i9), .val (.int i10), .val (.ref (n0 + ob11)), .val (.int i12), .val (.int i13), .val (.int i14), .val (.int i15), .val (.ref (n0 + ob16)), .val (.int i17), .val (.int i18), .val (.int i19), .val (.int i20), .val (.ref (n0 + ob21)), .val (.int i22)] [(.ref (n0 + ob21))])) _
        refine XS.iconst X0.here hx rfl (hb hby at_325) ?_
        show Steps p.tables e below (T0.setTop (mkF m 326 #[.val (.int i0), .val (.int i1), .val (.int i2), .val (.int i3), .val (.int i4), .val (.int i5), .val (.int i6), .val (.int i7), .val (.int i8), .val (.int i9), .val (.int i10), .val (.ref (n0 + ob11)), .val (.int i12), .val (.int i13), .val (.int i14), .val (.int i15), .val (.ref (n0 + ob16)), .val (.int i17), .val (.int i18), .val (.int i19), .val (.int i20), .val (.ref (n0 + ob21)), .val (.int i22)] [(.int (2 : Int32)), (.ref (n0 + ob21))])) _
        refine ldW X0 hx hZ e0 O0 hx50 rfl (g := (mkF m 326 #[.val (.int i0), .val (.int i1), .val (.int i2), .val (.int i3), .val (.int i4), .val (.int i5), .val (.int i6), .val (.int i7), .val (.int i8), .val (.int i9), .val (.int i10), .val (.ref (n0 + ob11)), .val (.int i12), .val (.int i13), .val (.int i14), .val (.int i15), .val (.ref (n0 + ob16)), .val (.int i17), .val (.int i18), .val (.int i19), .val (.int i20), .val (.ref (n0 + ob21)), .val (.int i22)] [(.int (2 : Int32)), (.ref (n0 + ob21))])) rfl rfl (hb hby at_326) _ ?_
        show Steps p.tables e below (T0.setTop (mkF m 327 #[.val (.int i0), .val (.int i1), .val (.int i2), .val (.int i3), .val (.int i4), .val (.int i5), .val (.int i6), .val (.int i7), .val (.int i8), .val (.int i9), .val (.int i10), .val (.ref (n0 + ob11)), .val (.int i12), .val (.int i13), .val (.int i14), .val (.int i15), .val (.ref (n0 + ob16)), .val (.int i17), .val (.int i18), .val (.int i19), .val (.int i20), .val (.ref (n0 + ob21)), .val (.int i22)] [(.int x50)])) _
        refine XS.iload X0.here hx rfl (hb hby at_327) rfl ?_
        show Steps p.tables e below (T0.setTop (mkF m 329 #[.val (.int i0), .val (.int i1), .val (.int i2), .val (.int i3), .val (.int i4), .val (.int i5), .val (.int i6), .val (.int i7), .val (.int i8), .val (.int i9), .val (.int i10), .val (.ref (n0 + ob11)), .val (.int i12), .val (.int i13), .val (.int i14), .val (.int i15), .val (.ref (n0 + ob16)), .val (.int i17), .val (.int i18), .val (.int i19), .val (.int i20), .val (.ref (n0 + ob21)), .val (.int i22)] [(.int i7), (.int x50)])) _
        refine XS.iload X0.here hx rfl (hb hby at_329) rfl ?_
        show Steps p.tables e below (T0.setTop (mkF m 331 #[.val (.int i0), .val (.int i1), .val (.int i2), .val (.int i3), .val (.int i4), .val (.int i5), .val (.int i6), .val (.int i7), .val (.int i8), .val (.int i9), .val (.int i10), .val (.ref (n0 + ob11)), .val (.int i12), .val (.int i13), .val (.int i14), .val (.int i15), .val (.ref (n0 + ob16)), .val (.int i17), .val (.int i18), .val (.int i19), .val (.int i20), .val (.ref (n0 + ob21)), .val (.int i22)] [(.int i17), (.int i7), (.int x50)])) _
        refine XS.iload X0.here hx rfl (hb hby at_331) rfl ?_
        show Steps p.tables e below (T0.setTop (mkF m 333 #[.val (.int i0), .val (.int i1), .val (.int i2), .val (.int i3), .val (.int i4), .val (.int i5), .val (.int i6), .val (.int i7), .val (.int i8), .val (.int i9), .val (.int i10), .val (.ref (n0 + ob11)), .val (.int i12), .val (.int i13), .val (.int i14), .val (.int i15), .val (.ref (n0 + ob16)), .val (.int i17), .val (.int i18), .val (.int i19), .val (.int i20), .val (.ref (n0 + ob21)), .val (.int i22)] [(.int i18), (.int i17), (.int i7), (.int x50)])) _
        refine XS.iload X0.here hx rfl (hb hby at_333) rfl ?_
        show Steps p.tables e below (T0.setTop (mkF m 335 #[.val (.int i0), .val (.int i1), .val (.int i2), .val (.int i3), .val (.int i4), .val (.int i5), .val (.int i6), .val (.int i7), .val (.int i8), .val (.int i9), .val (.int i10), .val (.ref (n0 + ob11)), .val (.int i12), .val (.int i13), .val (.int i14), .val (.int i15), .val (.ref (n0 + ob16)), .val (.int i17), .val (.int i18), .val (.int i19), .val (.int i20), .val (.ref (n0 + ob21)), .val (.int i22)] [(.int i19), (.int i18), (.int i17), (.int i7), (.int x50)])) _
        refine XS.iload X0.here hx rfl (hb hby at_335) rfl ?_
        show Steps p.tables e below (T0.setTop (mkF m 337 #[.val (.int i0), .val (.int i1), .val (.int i2), .val (.int i3), .val (.int i4), .val (.int i5), .val (.int i6), .val (.int i7), .val (.int i8), .val (.int i9), .val (.int i10), .val (.ref (n0 + ob11)), .val (.int i12), .val (.int i13), .val (.int i14), .val (.int i15), .val (.ref (n0 + ob16)), .val (.int i17), .val (.int i18), .val (.int i19), .val (.int i20), .val (.ref (n0 + ob21)), .val (.int i22)] [(.int i20), (.int i19), (.int i18), (.int i17), (.int i7), (.int x50)])) _
        refine XS.iconst X0.here hx rfl (hb hby at_337) ?_
        show Steps p.tables e below (T0.setTop (mkF m 338 #[.val (.int i0), .val (.int i1), .val (.int i2), .val (.int i3), .val (.int i4), .val (.int i5), .val (.int i6), .val (.int i7), .val (.int i8), .val (.int i9), .val (.int i10), .val (.ref (n0 + ob11)), .val (.int i12), .val (.int i13), .val (.int i14), .val (.int i15), .val (.ref (n0 + ob16)), .val (.int i17), .val (.int i18), .val (.int i19), .val (.int i20), .val (.ref (n0 + ob21)), .val (.int i22)] [(.int (2 : Int32)), (.int i20), (.int i19), (.int i18), (.int i17), (.int i7), (.int x50)])) _
        refine st51 _ ?_
        exact k
      by_cases hc53 : x50 = x52
      · rw [if_pos hc53] at hf
        refine Gl.on (B := T51.setTop (mkF m 349 #[.val (.int i0), .val (.int i1), .val (.int i2), .val (.int i3), .val (.int i4), .val (.int i5), .val (.int i6), .val (.int i7), .val (.int i8), .val (.int i9), .val (.int i10), .val (.ref (n0 + ob11)), .val (.int i12), .val (.int i13), .val (.int i14), .val (.int i15), .val (.ref (n0 + ob16)), .val (.int i17), .val (.int i18), .val (.int i19), .val (.int i20), .val (.ref (n0 + ob21)), .val (.int i22)] [(.int (1 : Int32))])) (fun t k => ?_) ?_
        · show Steps p.tables e below (T51.setTop (mkF m 341 #[.val (.int i0), .val (.int i1), .val (.int i2), .val (.int i3), .val (.int i4), .val (.int i5), .val (.int i6), .val (.int i7), .val (.int i8), .val (.int i9), .val (.int i10), .val (.ref (n0 + ob11)), .val (.int i12), .val (.int i13), .val (.int i14), .val (.int i15), .val (.ref (n0 + ob16)), .val (.int i17), .val (.int i18), .val (.int i19), .val (.int i20), .val (.ref (n0 + ob21)), .val (.int i22)] [(.int x52), (.int x50)])) _
          refine XS.icmpNo X51.here hx rfl (hb hby at_341) rfl (teq hc53).2 ?_
          show Steps p.tables e below (T51.setTop (mkF m 344 #[.val (.int i0), .val (.int i1), .val (.int i2), .val (.int i3), .val (.int i4), .val (.int i5), .val (.int i6), .val (.int i7), .val (.int i8), .val (.int i9), .val (.int i10), .val (.ref (n0 + ob11)), .val (.int i12), .val (.int i13), .val (.int i14), .val (.int i15), .val (.ref (n0 + ob16)), .val (.int i17), .val (.int i18), .val (.int i19), .val (.int i20), .val (.ref (n0 + ob21)), .val (.int i22)] [])) _
          refine XS.iconst X51.here hx rfl (hb hby at_344) ?_
          show Steps p.tables e below (T51.setTop (mkF m 345 #[.val (.int i0), .val (.int i1), .val (.int i2), .val (.int i3), .val (.int i4), .val (.int i5), .val (.int i6), .val (.int i7), .val (.int i8), .val (.int i9), .val (.int i10), .val (.ref (n0 + ob11)), .val (.int i12), .val (.int i13), .val (.int i14), .val (.int i15), .val (.ref (n0 + ob16)), .val (.int i17), .val (.int i18), .val (.int i19), .val (.int i20), .val (.ref (n0 + ob21)), .val (.int i22)] [(.int (1 : Int32))])) _
          refine XS.goto X51.here hx rfl (pc0 := 345) (pc' := 349) rfl (hb hby at_345) (by decide) (by decide) ?_
          exact k
        exact bt0_349 hw hC X51 e51 O51 N51 (by omega) (by omega) hf
      · rw [if_neg hc53] at hf
        refine Gl.on (B := T51.setTop (mkF m 348 #[.val (.int i0), .val (.int i1), .val (.int i2), .val (.int i3), .val (.int i4), .val (.int i5), .val (.int i6), .val (.int i7), .val (.int i8), .val (.int i9), .val (.int i10), .val (.ref (n0 + ob11)), .val (.int i12), .val (.int i13), .val (.int i14), .val (.int i15), .val (.ref (n0 + ob16)), .val (.int i17), .val (.int i18), .val (.int i19), .val (.int i20), .val (.ref (n0 + ob21)), .val (.int i22)] [])) (fun t k => ?_) ?_
        · show Steps p.tables e below (T51.setTop (mkF m 341 #[.val (.int i0), .val (.int i1), .val (.int i2), .val (.int i3), .val (.int i4), .val (.int i5), .val (.int i6), .val (.int i7), .val (.int i8), .val (.int i9), .val (.int i10), .val (.ref (n0 + ob11)), .val (.int i12), .val (.int i13), .val (.int i14), .val (.int i15), .val (.ref (n0 + ob16)), .val (.int i17), .val (.int i18), .val (.int i19), .val (.int i20), .val (.ref (n0 + ob21)), .val (.int i22)] [(.int x52), (.int x50)])) _
          refine XS.icmpYes X51.here hx rfl (pc0 := 341) (pc' := 348) rfl (hb hby at_341) rfl (feq hc53).2 (by decide) (by decide) ?_
          exact k
        exact bt0_348 hw hC X51 e51 O51 N51 (by omega) (by omega) hf
def b0_310 (D : Hp) (i6 : Int32) (i7 : Int32) (i17 : Int32) (i18 : Int32) (i19 : Int32) (i20 : Int32) (ob21 : Nat) (t0 : Int32) : Option (Int32 × Hp) :=
  b0_312 D i6 i7 i17 i18 i19 i20 ob21 t0
set_option maxRecDepth 65536 in
set_option maxHeartbeats 40000000 in
theorem bt0_310 {p : Program} {l : Launch} {e : Env} {s : State} {m : MethodId} {args : Array Value} {below : List Frame} {meth : Method} {c : Code} {Z : State} {a0 : Array Value} {n0 : Nat} {D' : Hp} {r : Int32} {T0 : State} {locs : List Loc} {cells slots : Nat} {h0 : Heap} {D : Hp} {i0 : Int32} {i1 : Int32} {i2 : Int32} {i3 : Int32} {i4 : Int32} {i5 : Int32} {i6 : Int32} {i7 : Int32} {i8 : Int32} {i9 : Int32} {i10 : Int32} {ob11 : Nat} {i12 : Int32} {i13 : Int32} {i14 : Int32} {i15 : Int32} {ob16 : Nat} {i17 : Int32} {i18 : Int32} {i19 : Int32} {i20 : Int32} {ob21 : Nat} {i22 : Int32} {t0 : Int32} (hw : ∀ d ∈ tables_1, d.before a0 Z = true) (hC : Cx p s m meth c Z code maxLocals ret "com/example/planar_drawing_kit/planardrawingkit/decomposition/CountingStartsPinLaw" "law") (X0 : Stand p l e room_1 s m args below meth c T0 locs cells slots) (e0 : T0.heap = h0) (O0 : Ow Kt1 Z h0 n0 D) (N0 : Fr n0 locs) (hcc : cells ≤ 3) (hss : slots ≤ 19) (hf : b0_310 D i6 i7 i17 i18 i19 i20 ob21 t0 = some (r, D')) : Gl p e below s 16 128 (Qw Kt1 Z n0 (some (.int r)) D') (T0.setTop (mkF m 310 #[.val (.int i0), .val (.int i1), .val (.int i2), .val (.int i3), .val (.int i4), .val (.int i5), .val (.int i6), .val (.int i7), .val (.int i8), .val (.int i9), .val (.int i10), .val (.ref (n0 + ob11)), .val (.int i12), .val (.int i13), .val (.int i14), .val (.int i15), .val (.ref (n0 + ob16)), .val (.int i17), .val (.int i18), .val (.int i19), .val (.int i20), .val (.ref (n0 + ob21)), .val (.int i22)] [(.int t0)])) := by
  obtain ⟨hx, hZ, hby, hml, hown, hnm, hret, hlk⟩ := id hC
  have hml : c.maxLocals = 23 := hml
  rw [b0_310] at hf
  refine Gl.on (B := T0.setTop (mkF m 312 #[.val (.int i0), .val (.int i1), .val (.int i2), .val (.int i3), .val (.int i4), .val (.int i5), .val (.int i6), .val (.int i7), .val (.int i8), .val (.int i9), .val (.int i10), .val (.ref (n0 + ob11)), .val (.int i12), .val (.int i13), .val (.int i14), .val (.int i15), .val (.ref (n0 + ob16)), .val (.int i17), .val (.int i18), .val (.int i19), .val (.int i20), .val (.ref (n0 + ob21)), .val (.int t0)] [])) (fun t k => ?_) ?_
  · show Steps p.tables e below (T0.setTop (mkF m 310 #[.val (.int i0), .val (.int i1), .val (.int i2), .val (.int i3), .val (.int i4), .val (.int i5), .val (.int i6), .val (.int i7), .val (.int i8), .val (.int i9), .val (.int i10), .val (.ref (n0 + ob11)), .val (.int i12), .val (.int i13), .val (.int i14), .val (.int i15), .val (.ref (n0 + ob16)), .val (.int i17), .val (.int i18), .val (.int i19), .val (.int i20), .val (.ref (n0 + ob21)), .val (.int i22)] [(.int t0)])) _
    refine XS.istore X0.here hx rfl (hb hby at_310) rfl (l' := #[.val (.int i0), .val (.int i1), .val (.int i2), .val (.int i3), .val (.int i4), .val (.int i5), .val (.int i6), .val (.int i7), .val (.int i8), .val (.int i9), .val (.int i10), .val (.ref (n0 + ob11)), .val (.int i12), .val (.int i13), .val (.int i14), .val (.int i15), .val (.ref (n0 + ob16)), .val (.int i17), .val (.int i18), .val (.int i19), .val (.int i20), .val (.ref (n0 + ob21)), .val (.int t0)]) rfl ?_
    exact k
  exact bt0_312 hw hC X0 e0 O0 N0 (by omega) (by omega) hf
def b0_309 (D : Hp) (i6 : Int32) (i7 : Int32) (i17 : Int32) (i18 : Int32) (i19 : Int32) (i20 : Int32) (ob21 : Nat) : Option (Int32 × Hp) :=
  b0_310 D i6 i7 i17 i18 i19 i20 ob21 (0 : Int32)
set_option maxRecDepth 65536 in
set_option maxHeartbeats 40000000 in
theorem bt0_309 {p : Program} {l : Launch} {e : Env} {s : State} {m : MethodId} {args : Array Value} {below : List Frame} {meth : Method} {c : Code} {Z : State} {a0 : Array Value} {n0 : Nat} {D' : Hp} {r : Int32} {T0 : State} {locs : List Loc} {cells slots : Nat} {h0 : Heap} {D : Hp} {i0 : Int32} {i1 : Int32} {i2 : Int32} {i3 : Int32} {i4 : Int32} {i5 : Int32} {i6 : Int32} {i7 : Int32} {i8 : Int32} {i9 : Int32} {i10 : Int32} {ob11 : Nat} {i12 : Int32} {i13 : Int32} {i14 : Int32} {i15 : Int32} {ob16 : Nat} {i17 : Int32} {i18 : Int32} {i19 : Int32} {i20 : Int32} {ob21 : Nat} {i22 : Int32} (hw : ∀ d ∈ tables_1, d.before a0 Z = true) (hC : Cx p s m meth c Z code maxLocals ret "com/example/planar_drawing_kit/planardrawingkit/decomposition/CountingStartsPinLaw" "law") (X0 : Stand p l e room_1 s m args below meth c T0 locs cells slots) (e0 : T0.heap = h0) (O0 : Ow Kt1 Z h0 n0 D) (N0 : Fr n0 locs) (hcc : cells ≤ 3) (hss : slots ≤ 19) (hf : b0_309 D i6 i7 i17 i18 i19 i20 ob21 = some (r, D')) : Gl p e below s 16 128 (Qw Kt1 Z n0 (some (.int r)) D') (T0.setTop (mkF m 309 #[.val (.int i0), .val (.int i1), .val (.int i2), .val (.int i3), .val (.int i4), .val (.int i5), .val (.int i6), .val (.int i7), .val (.int i8), .val (.int i9), .val (.int i10), .val (.ref (n0 + ob11)), .val (.int i12), .val (.int i13), .val (.int i14), .val (.int i15), .val (.ref (n0 + ob16)), .val (.int i17), .val (.int i18), .val (.int i19), .val (.int i20), .val (.ref (n0 + ob21)), .val (.int i22)] [])) := by
  obtain ⟨hx, hZ, hby, hml, hown, hnm, hret, hlk⟩ := id hC
  have hml : c.maxLocals = 23 := hml
  rw [b0_309] at hf
  refine Gl.on (B := T0.setTop (mkF m 310 #[.val (.int i0), .val (.int i1), .val (.int i2), .val (.int i3), .val (.int i4), .val (.int i5), .val (.int i6), .val (.int i7), .val (.int i8), .val (.int i9), .val (.int i10), .val (.ref (n0 + ob11)), .val (.int i12), .val (.int i13), .val (.int i14), .val (.int i15), .val (.ref (n0 + ob16)), .val (.int i17), .val (.int i18), .val (.int i19), .val (.int i20), .val (.ref (n0 + ob21)), .val (.int i22)] [(.int (0 : Int32))])) (fun t k => ?_) ?_
  · show Steps p.tables e below (T0.setTop (mkF m 309 #[.val (.int i0), .val (.int i1), .val (.int i2), .val (.int i3), .val (.int i4), .val (.int i5), .val (.int i6), .val (.int i7), .val (.int i8), .val (.int i9), .val (.int i10), .val (.ref (n0 + ob11)), .val (.int i12), .val (.int i13), .val (.int i14), .val (.int i15), .val (.ref (n0 + ob16)), .val (.int i17), .val (.int i18), .val (.int i19), .val (.int i20), .val (.ref (n0 + ob21)), .val (.int i22)] [])) _
    refine XS.iconst X0.here hx rfl (hb hby at_309) ?_
    exact k
  exact bt0_310 hw hC X0 e0 O0 N0 (by omega) (by omega) hf
def b0_271 (D : Hp) (i6 : Int32) (i7 : Int32) (i17 : Int32) (i18 : Int32) (i19 : Int32) (i20 : Int32) (ob21 : Nat) (t0 : Int32) : Option (Int32 × Hp) :=
  if i6 < (1 : Int32) then (b0_312 D i6 i7 i17 i18 i19 i20 ob21 t0) else (if t0 = (0 : Int32) then (b0_309 D i6 i7 i17 i18 i19 i20 ob21) else ((rI D ob21 0 (1 : Int32)).bind fun x44 =>
  (f3 D i7 i17 i18 i19 i20 (1 : Int32)).bind fun q45 => own_let q45.1 fun x46 => own_let q45.2 fun D45 =>
  if x44 = x46 then (b0_310 D45 i6 i7 i17 i18 i19 i20 ob21 (1 : Int32)) else (b0_309 D45 i6 i7 i17 i18 i19 i20 ob21)))
set_option maxRecDepth 65536 in
set_option maxHeartbeats 40000000 in
theorem bt0_271 {p : Program} {l : Launch} {e : Env} {s : State} {m : MethodId} {args : Array Value} {below : List Frame} {meth : Method} {c : Code} {Z : State} {a0 : Array Value} {n0 : Nat} {D' : Hp} {r : Int32} {T0 : State} {locs : List Loc} {cells slots : Nat} {h0 : Heap} {D : Hp} {i0 : Int32} {i1 : Int32} {i2 : Int32} {i3 : Int32} {i4 : Int32} {i5 : Int32} {i6 : Int32} {i7 : Int32} {i8 : Int32} {i9 : Int32} {i10 : Int32} {ob11 : Nat} {i12 : Int32} {i13 : Int32} {i14 : Int32} {i15 : Int32} {ob16 : Nat} {i17 : Int32} {i18 : Int32} {i19 : Int32} {i20 : Int32} {ob21 : Nat} {t0 : Int32} (hw : ∀ d ∈ tables_1, d.before a0 Z = true) (hC : Cx p s m meth c Z code maxLocals ret "com/example/planar_drawing_kit/planardrawingkit/decomposition/CountingStartsPinLaw" "law") (X0 : Stand p l e room_1 s m args below meth c T0 locs cells slots) (e0 : T0.heap = h0) (O0 : Ow Kt1 Z h0 n0 D) (N0 : Fr n0 locs) (hcc : cells ≤ 3) (hss : slots ≤ 19) (hf : b0_271 D i6 i7 i17 i18 i19 i20 ob21 t0 = some (r, D')) : Gl p e below s 16 128 (Qw Kt1 Z n0 (some (.int r)) D') (T0.setTop (mkF m 271 #[.val (.int i0), .val (.int i1), .val (.int i2), .val (.int i3), .val (.int i4), .val (.int i5), .val (.int i6), .val (.int i7), .val (.int i8), .val (.int i9), .val (.int i10), .val (.ref (n0 + ob11)), .val (.int i12), .val (.int i13), .val (.int i14), .val (.int i15), .val (.ref (n0 + ob16)), .val (.int i17), .val (.int i18), .val (.int i19), .val (.int i20), .val (.ref (n0 + ob21)), .unset] [(.int t0)])) := by
  obtain ⟨hx, hZ, hby, hml, hown, hnm, hret, hlk⟩ := id hC
  have hml : c.maxLocals = 23 := hml
  rw [b0_271] at hf
  refine Gl.on (B := T0.setTop (mkF m 276 #[.val (.int i0), .val (.int i1), .val (.int i2), .val (.int i3), .val (.int i4), .val (.int i5), .val (.int i6), .val (.int i7), .val (.int i8), .val (.int i9), .val (.int i10), .val (.ref (n0 + ob11)), .val (.int i12), .val (.int i13), .val (.int i14), .val (.int i15), .val (.ref (n0 + ob16)), .val (.int i17), .val (.int i18), .val (.int i19), .val (.int i20), .val (.ref (n0 + ob21)), .val (.int t0)] [(.int i6), (.int (1 : Int32))])) (fun t k => ?_) ?_
  · show Steps p.tables e below (T0.setTop (mkF m 271 #[.val (.int i0), .val (.int i1), .val (.int i2), .val (.int i3), .val (.int i4), .val (.int i5), .val (.int i6), .val (.int i7), .val (.int i8), .val (.int i9), .val (.int i10), .val (.ref (n0 + ob11)), .val (.int i12), .val (.int i13), .val (.int i14), .val (.int i15), .val (.ref (n0 + ob16)), .val (.int i17), .val (.int i18), .val (.int i19), .val (.int i20), .val (.ref (n0 + ob21)), .unset] [(.int t0)])) _
    refine XS.istore X0.here hx rfl (hb hby at_271) rfl (l' := #[.val (.int i0), .val (.int i1), .val (.int i2), .val (.int i3), .val (.int i4), .val (.int i5), .val (.int i6), .val (.int i7), .val (.int i8), .val (.int i9), .val (.int i10), .val (.ref (n0 + ob11)), .val (.int i12), .val (.int i13), .val (.int i14), .val (.int i15), .val (.ref (n0 + ob16)), .val (.int i17), .val (.int i18), .val (.int i19), .val (.int i20), .val (.ref (n0 + ob21)), .val (.int t0)]) rfl ?_
    show Steps p.tables e below (T0.setTop (mkF m 273 #[.val (.int i0), .val (.int i1), .val (.int i2), .val (.int i3), .val (.int i4), .val (.int i5), .val (.int i6), .val (.int i7), .val (.int i8), .val (.int i9), .val (.int i10), .val (.ref (n0 + ob11)), .val (.int i12), .val (.int i13), .val (.int i14), .val (.int i15), .val (.ref (n0 + ob16)), .val (.int i17), .val (.int i18), .val (.int i19), .val (.int i20), .val (.ref (n0 + ob21)), .val (.int t0)] [])) _
    refine XS.iconst X0.here hx rfl (hb hby at_273) ?_
    show Steps p.tables e below (T0.setTop (mkF m 274 #[.val (.int i0), .val (.int i1), .val (.int i2), .val (.int i3), .val (.int i4), .val (.int i5), .val (.int i6), .val (.int i7), .val (.int i8), .val (.int i9), .val (.int i10), .val (.ref (n0 + ob11)), .val (.int i12), .val (.int i13), .val (.int i14), .val (.int i15), .val (.ref (n0 + ob16)), .val (.int i17), .val (.int i18), .val (.int i19), .val (.int i20), .val (.ref (n0 + ob21)), .val (.int t0)] [(.int (1 : Int32))])) _
    refine XS.iload X0.here hx rfl (hb hby at_274) rfl ?_
    exact k
  by_cases hc42 : i6 < (1 : Int32)
  · rw [if_pos hc42] at hf
    refine Gl.on (B := T0.setTop (mkF m 312 #[.val (.int i0), .val (.int i1), .val (.int i2), .val (.int i3), .val (.int i4), .val (.int i5), .val (.int i6), .val (.int i7), .val (.int i8), .val (.int i9), .val (.int i10), .val (.ref (n0 + ob11)), .val (.int i12), .val (.int i13), .val (.int i14), .val (.int i15), .val (.ref (n0 + ob16)), .val (.int i17), .val (.int i18), .val (.int i19), .val (.int i20), .val (.ref (n0 + ob21)), .val (.int t0)] [])) (fun t k => ?_) ?_
    · show Steps p.tables e below (T0.setTop (mkF m 276 #[.val (.int i0), .val (.int i1), .val (.int i2), .val (.int i3), .val (.int i4), .val (.int i5), .val (.int i6), .val (.int i7), .val (.int i8), .val (.int i9), .val (.int i10), .val (.ref (n0 + ob11)), .val (.int i12), .val (.int i13), .val (.int i14), .val (.int i15), .val (.ref (n0 + ob16)), .val (.int i17), .val (.int i18), .val (.int i19), .val (.int i20), .val (.ref (n0 + ob21)), .val (.int t0)] [(.int i6), (.int (1 : Int32))])) _
      refine XS.icmpYes X0.here hx rfl (pc0 := 276) (pc' := 312) rfl (hb hby at_276) rfl (tlt hc42).2.2.1 (by decide) (by decide) ?_
      exact k
    exact bt0_312 hw hC X0 e0 O0 N0 (by omega) (by omega) hf
  · rw [if_neg hc42] at hf
    refine Gl.on (B := T0.setTop (mkF m 281 #[.val (.int i0), .val (.int i1), .val (.int i2), .val (.int i3), .val (.int i4), .val (.int i5), .val (.int i6), .val (.int i7), .val (.int i8), .val (.int i9), .val (.int i10), .val (.ref (n0 + ob11)), .val (.int i12), .val (.int i13), .val (.int i14), .val (.int i15), .val (.ref (n0 + ob16)), .val (.int i17), .val (.int i18), .val (.int i19), .val (.int i20), .val (.ref (n0 + ob21)), .val (.int t0)] [(.int t0)])) (fun t k => ?_) ?_
    · show Steps p.tables e below (T0.setTop (mkF m 276 #[.val (.int i0), .val (.int i1), .val (.int i2), .val (.int i3), .val (.int i4), .val (.int i5), .val (.int i6), .val (.int i7), .val (.int i8), .val (.int i9), .val (.int i10), .val (.ref (n0 + ob11)), .val (.int i12), .val (.int i13), .val (.int i14), .val (.int i15), .val (.ref (n0 + ob16)), .val (.int i17), .val (.int i18), .val (.int i19), .val (.int i20), .val (.ref (n0 + ob21)), .val (.int t0)] [(.int i6), (.int (1 : Int32))])) _
      refine XS.icmpNo X0.here hx rfl (hb hby at_276) rfl (flt hc42).2.2.1 ?_
      show Steps p.tables e below (T0.setTop (mkF m 279 #[.val (.int i0), .val (.int i1), .val (.int i2), .val (.int i3), .val (.int i4), .val (.int i5), .val (.int i6), .val (.int i7), .val (.int i8), .val (.int i9), .val (.int i10), .val (.ref (n0 + ob11)), .val (.int i12), .val (.int i13), .val (.int i14), .val (.int i15), .val (.ref (n0 + ob16)), .val (.int i17), .val (.int i18), .val (.int i19), .val (.int i20), .val (.ref (n0 + ob21)), .val (.int t0)] [])) _
      refine XS.iload X0.here hx rfl (hb hby at_279) rfl ?_
      exact k
    by_cases hc43 : t0 = (0 : Int32)
    · rw [if_pos hc43] at hf
      refine Gl.on (B := T0.setTop (mkF m 309 #[.val (.int i0), .val (.int i1), .val (.int i2), .val (.int i3), .val (.int i4), .val (.int i5), .val (.int i6), .val (.int i7), .val (.int i8), .val (.int i9), .val (.int i10), .val (.ref (n0 + ob11)), .val (.int i12), .val (.int i13), .val (.int i14), .val (.int i15), .val (.ref (n0 + ob16)), .val (.int i17), .val (.int i18), .val (.int i19), .val (.int i20), .val (.ref (n0 + ob21)), .val (.int t0)] [])) (fun t k => ?_) ?_
      · show Steps p.tables e below (T0.setTop (mkF m 281 #[.val (.int i0), .val (.int i1), .val (.int i2), .val (.int i3), .val (.int i4), .val (.int i5), .val (.int i6), .val (.int i7), .val (.int i8), .val (.int i9), .val (.int i10), .val (.ref (n0 + ob11)), .val (.int i12), .val (.int i13), .val (.int i14), .val (.int i15), .val (.ref (n0 + ob16)), .val (.int i17), .val (.int i18), .val (.int i19), .val (.int i20), .val (.ref (n0 + ob21)), .val (.int t0)] [(.int t0)])) _
        refine XS.ifYes X0.here hx rfl (pc0 := 281) (pc' := 309) rfl (hb hby at_281) rfl ((if0 _ _).trans (teq hc43).1) (by decide) (by decide) ?_
        exact k
      exact bt0_309 hw hC X0 e0 O0 N0 (by omega) (by omega) hf
    · rw [if_neg hc43] at hf
      obtain ⟨x44, hx44, hf⟩ := own_bind hf
      obtain ⟨⟨x46, D45⟩, hq45, hf⟩ := own_bind hf
      obtain ⟨_, rfl, hf⟩ := own_letE hf
      obtain ⟨_, rfl, hf⟩ := own_letE hf
      obtain ⟨T45, h45, L45, X45, e45, O45, N45, st45⟩ := callSW X0 hx hZ (y := (⟨"com/example/planar_drawing_kit/planardrawingkit/decomposition/CountingStartsPinLaw", "below", "(IIIIII)I"⟩ : MethodName)) hown (hw _ (List.mem_of_getElem? (i := 10) rfl)) (hw _ (List.mem_of_getElem? (i := 11) rfl)) (hw _ (List.mem_of_getElem? (i := 4) rfl)) (hw _ (List.mem_of_getElem? (i := 12) rfl)) (by decide) e0 O0 N0 (as' := [(.int i7), (.int i17), (.int i18), (.int i19), (.int i20), (.int (1 : Int32))]) (ct3 hw hq45) (W := 1) (kc := 0) (ks := 0) rfl rfl (by decide) (by decide) (g := (mkF m 299 #[.val (.int i0), .val (.int i1), .val (.int i2), .val (.int i3), .val (.int i4), .val (.int i5), .val (.int i6), .val (.int i7), .val (.int i8), .val (.int i9), .val (.int i10), .val (.ref (n0 + ob11)), .val (.int i12), .val (.int i13), .val (.int i14), .val (.int i15), .val (.ref (n0 + ob16)), .val (.int i17), .val (.int i18), .val (.int i19), .val (.int i20), .val (.ref (n0 + ob21)), .val (.int t0)] [(.int (1 : Int32)), (.int i20), (.int i19), (.int i18), (.int i17), (.int i7), (.int x44)])) rfl (by rw [hml]; rfl) (rest := [(.int x44)]) (lenOf pd_2 rfl) rfl (by show 2 * 0 + _ ≤ _; exact Nat.le_of_eq rfl) (hb hby at_299) (by show _ + 0 ≤ 16; omega) (by show _ + 0 ≤ 128; omega)
      refine Gl.on (B := T45.setTop (mkF m 302 #[.val (.int i0), .val (.int i1), .val (.int i2), .val (.int i3), .val (.int i4), .val (.int i5), .val (.int i6), .val (.int i7), .val (.int i8), .val (.int i9), .val (.int i10), .val (.ref (n0 + ob11)), .val (.int i12), .val (.int i13), .val (.int i14), .val (.int i15), .val (.ref (n0 + ob16)), .val (.int i17), .val (.int i18), .val (.int i19), .val (.int i20), .val (.ref (n0 + ob21)), .val (.int t0)] [(.int x46), (.int x44)])) (fun t k => ?_) ?_
      · show Steps p.tables e below (T0.setTop (mkF m 281 #[.val (.int i0), .val (.int i1), .val (.int i2), .val (.int i3), .val (.int i4), .val (.int i5), .val (.int i6), .val (.int i7), .val (.int i8), .val (.int i9), .val (.int i10), .val (.ref (n0 + ob11)), .val (.int i12), .val (.int i13), .val (.int i14), .val (.int i15), .val (.ref (n0 + ob16)), .val (.int i17), .val (.int i18), .val (.int i19), .val (.int i20), .val (.ref (n0 + ob21)), .val (.int t0)] [(.int t0)])) _
        refine XS.ifNo X0.here hx rfl (hb hby at_281) rfl ((if0 _ _).trans (feq hc43).1) ?_
        show Steps p.tables e below (T0.setTop (mkF m 284 #[.val (.int i0), .val (.int i1), .val (.int i2), .val (.int i3), .val (.int i4), .val (.int i5), .val (.int i6), .val (.int i7), .val (.int i8), .val (.int i9), .val (.int i10), .val (.ref (n0 + ob11)), .val (.int i12), .val (.int i13), .val (.int i14), .val (.int i15), .val (.ref (n0 + ob16)), .val (.int i17), .val (.int i18), .val (.int i19), .val (.int i20), .val (.ref (n0 + ob21)), .val (.int t0)] [])) _
        refine XS.aload X0.here hx rfl (hb hby at_284) rfl rfl ?_
        show Steps p.tables e below (T0.setTop (mkF m 286 #[.val (.int i0), .val (.int i1), .val (.int i2), .val (.int i3), .val (.int i4), .val (.int i5), .val (.int i6), .val (.int i7), .val (.int i8), .val (.int i9), .val (.int i10), .val (.ref (n0 + ob11)), .val (.int i12), .val (.int i13), .val (.int i14), .val (.int i15), .val (.ref (n0 + ob16)), .val (.int i17), .val (.int i18), .val (.int i19), .val (.int i20), .val (.ref (n0 + ob21)), .val (.int t0)] [(.ref (n0 + ob21))])) _
        refine XS.iconst X0.here hx rfl (hb hby at_286) ?_
        show Steps p.tables e below (T0.setTop (mkF m 287 #[.val (.int i0), .val (.int i1), .val (.int i2), .val (.int i3), .val (.int i4), .val (.int i5), .val (.int i6), .val (.int i7), .val (.int i8), .val (.int i9), .val (.int i10), .val (.ref (n0 + ob11)), .val (.int i12), .val (.int i13), .val (.int i14), .val (.int i15), .val (.ref (n0 + ob16)), .val (.int i17), .val (.int i18), .val (.int i19), .val (.int i20), .val (.ref (n0 + ob21)), .val (.int t0)] [(.int (1 : Int32)), (.ref (n0 + ob21))])) _
        refine ldW X0 hx hZ e0 O0 hx44 rfl (g := (mkF m 287 #[.val (.int i0), .val (.int i1), .val (.int i2), .val (.int i3), .val (.int i4), .val (.int i5), .val (.int i6), .val (.int i7), .val (.int i8), .val (.int i9), .val (.int i10), .val (.ref (n0 + ob11)), .val (.int i12), .val (.int i13), .val (.int i14), .val (.int i15), .val (.ref (n0 + ob16)), .val (.int i17), .val (.int i18), .val (.int i19), .val (.int i20), .val (.ref (n0 + ob21)), .val (.int t0)] [(.int (1 : Int32)), (.ref (n0 + ob21))])) rfl rfl (hb hby at_287) _ ?_
        show Steps p.tables e below (T0.setTop (mkF m 288 #[.val (.int i0), .val (.int i1), .val (.int i2), .val (.int i3), .val (.int i4), .val (.int i5), .val (.int i6), .val (.int i7), .val (.int i8), .val (.int i9), .val (.int i10), .val (.ref (n0 + ob11)), .val (.int i12), .val (.int i13), .val (.int i14), .val (.int i15), .val (.ref (n0 + ob16)), .val (.int i17), .val (.int i18), .val (.int i19), .val (.int i20), .val (.ref (n0 + ob21)), .val (.int t0)] [(.int x44)])) _
        refine XS.iload X0.here hx rfl (hb hby at_288) rfl ?_
        show Steps p.tables e below (T0.setTop (mkF m 290 #[.val (.int i0), .val (.int i1), .val (.int i2), .val (.int i3), .val (.int i4), .val (.int i5), .val (.int i6), .val (.int i7), .val (.int i8), .val (.int i9), .val (.int i10), .val (.ref (n0 + ob11)), .val (.int i12), .val (.int i13), .val (.int i14), .val (.int i15), .val (.ref (n0 + ob16)), .val (.int i17), .val (.int i18), .val (.int i19), .val (.int i20), .val (.ref (n0 + ob21)), .val (.int t0)] [(.int i7), (.int x44)])) _
        refine XS.iload X0.here hx rfl (hb hby at_290) rfl ?_
        show Steps p.tables e below (T0.setTop (mkF m 292 #[.val (.int i0), .val (.int i1), .val (.int i2), .val (.int i3), .val (.int i4), .val (.int i5), .val (.int i6), .val (.int i7), .val (.int i8), .val (.int i9), .val (.int i10), .val (.ref (n0 + ob11)), .val (.int i12), .val (.int i13), .val (.int i14), .val (.int i15), .val (.ref (n0 + ob16)), .val (.int i17), .val (.int i18), .val (.int i19), .val (.int i20), .val (.ref (n0 + ob21)), .val (.int t0)] [(.int i17), (.int i7), (.int x44)])) _
        refine XS.iload X0.here hx rfl (hb hby at_292) rfl ?_
        show Steps p.tables e below (T0.setTop (mkF m 294 #[.val (.int i0), .val (.int i1), .val (.int i2), .val (.int i3), .val (.int i4), .val (.int i5), .val (.int i6), .val (.int i7), .val (.int i8), .val (.int i9), .val (.int i10), .val (.ref (n0 + ob11)), .val (.int i12), .val (.int i13), .val (.int i14), .val (.int i15), .val (.ref (n0 + ob16)), .val (.int i17), .val (.int i18), .val (.int i19), .val (.int i20), .val (.ref (n0 + ob21)), .val (.int t0)] [(.int i18), (.int i17), (.int i7), (.int x44)])) _
        refine XS.iload X0.here hx rfl (hb hby at_294) rfl ?_
        show Steps p.tables e below (T0.setTop (mkF m 296 #[.val (.int i0), .val (.int i1), .val (.int i2), .val (.int i3), .val (.int i4), .val (.int i5), .val (.int i6), .val (.int i7), .val (.int i8), .val (.int i9), .val (.int i10), .val (.ref (n0 + ob11)), .val (.int i12), .val (.int i13), .val (.int i14), .val (.int i15), .val (.ref (n0 + ob16)), .val (.int i17), .val (.int i18), .val (.int i19), .val (.int i20), .val (.ref (n0 + ob21)), .val (.int t0)] [(.int i19), (.int i18), (.int i17), (.int i7), (.int x44)])) _
        refine XS.iload X0.here hx rfl (hb hby at_296) rfl ?_
        show Steps p.tables e below (T0.setTop (mkF m 298 #[.val (.int i0), .val (.int i1), .val (.int i2), .val (.int i3), .val (.int i4), .val (.int i5), .val (.int i6), .val (.int i7), .val (.int i8), .val (.int i9), .val (.int i10), .val (.ref (n0 + ob11)), .val (.int i12), .val (.int i13), .val (.int i14), .val (.int i15), .val (.ref (n0 + ob16)), .val (.int i17), .val (.int i18), .val (.int i19), .val (.int i20), .val (.ref (n0 + ob21)), .val (.int t0)] [(.int i20), (.int i19), (.int i18), (.int i17), (.int i7), (.int x44)])) _
        refine XS.iconst X0.here hx rfl (hb hby at_298) ?_
        show Steps p.tables e below (T0.setTop (mkF m 299 #[.val (.int i0), .val (.int i1), .val (.int i2), .val (.int i3), .val (.int i4), .val (.int i5), .val (.int i6), .val (.int i7), .val (.int i8), .val (.int i9), .val (.int i10), .val (.ref (n0 + ob11)), .val (.int i12), .val (.int i13), .val (.int i14), .val (.int i15), .val (.ref (n0 + ob16)), .val (.int i17), .val (.int i18), .val (.int i19), .val (.int i20), .val (.ref (n0 + ob21)), .val (.int t0)] [(.int (1 : Int32)), (.int i20), (.int i19), (.int i18), (.int i17), (.int i7), (.int x44)])) _
        refine st45 _ ?_
        exact k
      by_cases hc47 : x44 = x46
      · rw [if_pos hc47] at hf
        refine Gl.on (B := T45.setTop (mkF m 310 #[.val (.int i0), .val (.int i1), .val (.int i2), .val (.int i3), .val (.int i4), .val (.int i5), .val (.int i6), .val (.int i7), .val (.int i8), .val (.int i9), .val (.int i10), .val (.ref (n0 + ob11)), .val (.int i12), .val (.int i13), .val (.int i14), .val (.int i15), .val (.ref (n0 + ob16)), .val (.int i17), .val (.int i18), .val (.int i19), .val (.int i20), .val (.ref (n0 + ob21)), .val (.int t0)] [(.int (1 : Int32))])) (fun t k => ?_) ?_
        · show Steps p.tables e below (T45.setTop (mkF m 302 #[.val (.int i0), .val (.int i1), .val (.int i2), .val (.int i3), .val (.int i4), .val (.int i5), .val (.int i6), .val (.int i7), .val (.int i8), .val (.int i9), .val (.int i10), .val (.ref (n0 + ob11)), .val (.int i12), .val (.int i13), .val (.int i14), .val (.int i15), .val (.ref (n0 + ob16)), .val (.int i17), .val (.int i18), .val (.int i19), .val (.int i20), .val (.ref (n0 + ob21)), .val (.int t0)] [(.int x46), (.int x44)])) _
          refine XS.icmpNo X45.here hx rfl (hb hby at_302) rfl (teq hc47).2 ?_
          show Steps p.tables e below (T45.setTop (mkF m 305 #[.val (.int i0), .val (.int i1), .val (.int i2), .val (.int i3), .val (.int i4), .val (.int i5), .val (.int i6), .val (.int i7), .val (.int i8), .val (.int i9), .val (.int i10), .val (.ref (n0 + ob11)), .val (.int i12), .val (.int i13), .val (.int i14), .val (.int i15), .val (.ref (n0 + ob16)), .val (.int i17), .val (.int i18), .val (.int i19), .val (.int i20), .val (.ref (n0 + ob21)), .val (.int t0)] [])) _
          refine XS.iconst X45.here hx rfl (hb hby at_305) ?_
          show Steps p.tables e below (T45.setTop (mkF m 306 #[.val (.int i0), .val (.int i1), .val (.int i2), .val (.int i3), .val (.int i4), .val (.int i5), .val (.int i6), .val (.int i7), .val (.int i8), .val (.int i9), .val (.int i10), .val (.ref (n0 + ob11)), .val (.int i12), .val (.int i13), .val (.int i14), .val (.int i15), .val (.ref (n0 + ob16)), .val (.int i17), .val (.int i18), .val (.int i19), .val (.int i20), .val (.ref (n0 + ob21)), .val (.int t0)] [(.int (1 : Int32))])) _
          refine XS.goto X45.here hx rfl (pc0 := 306) (pc' := 310) rfl (hb hby at_306) (by decide) (by decide) ?_
          exact k
        exact bt0_310 hw hC X45 e45 O45 N45 (by omega) (by omega) hf
      · rw [if_neg hc47] at hf
        refine Gl.on (B := T45.setTop (mkF m 309 #[.val (.int i0), .val (.int i1), .val (.int i2), .val (.int i3), .val (.int i4), .val (.int i5), .val (.int i6), .val (.int i7), .val (.int i8), .val (.int i9), .val (.int i10), .val (.ref (n0 + ob11)), .val (.int i12), .val (.int i13), .val (.int i14), .val (.int i15), .val (.ref (n0 + ob16)), .val (.int i17), .val (.int i18), .val (.int i19), .val (.int i20), .val (.ref (n0 + ob21)), .val (.int t0)] [])) (fun t k => ?_) ?_
        · show Steps p.tables e below (T45.setTop (mkF m 302 #[.val (.int i0), .val (.int i1), .val (.int i2), .val (.int i3), .val (.int i4), .val (.int i5), .val (.int i6), .val (.int i7), .val (.int i8), .val (.int i9), .val (.int i10), .val (.ref (n0 + ob11)), .val (.int i12), .val (.int i13), .val (.int i14), .val (.int i15), .val (.ref (n0 + ob16)), .val (.int i17), .val (.int i18), .val (.int i19), .val (.int i20), .val (.ref (n0 + ob21)), .val (.int t0)] [(.int x46), (.int x44)])) _
          refine XS.icmpYes X45.here hx rfl (pc0 := 302) (pc' := 309) rfl (hb hby at_302) rfl (feq hc47).2 (by decide) (by decide) ?_
          exact k
        exact bt0_309 hw hC X45 e45 O45 N45 (by omega) (by omega) hf
def b0_165 (D : Hp) (i6 : Int32) (i7 : Int32) (i8 : Int32) (i9 : Int32) (i10 : Int32) (ob11 : Nat) (i12 : Int32) (i13 : Int32) (i14 : Int32) (i15 : Int32) (ob16 : Nat) : Option (Int32 × Hp) :=
  (f1 D i12 i8 i9 i10).bind fun q26 => own_let q26.1 fun x27 => own_let q26.2 fun D26 =>
  (f1 D26 i13 i8 i9 i10).bind fun q28 => own_let q28.1 fun x29 => own_let q28.2 fun D28 =>
  (f1 D28 i14 i8 i9 i10).bind fun q30 => own_let q30.1 fun x31 => own_let q30.2 fun D30 =>
  (f1 D30 i15 i8 i9 i10).bind fun q32 => own_let q32.1 fun x33 => own_let q32.2 fun D32 =>
  (f2 D32 ob16 ob11 i6).bind fun q34 => own_let q34.1 fun x35 => own_let q34.2 fun D34 =>
  (lA D34 x35 0).bind fun x36 =>
  if x36 = (i6 + (1 : Int32)) then ((rI D34 x35 0 (0 : Int32)).bind fun x38 =>
  (f3 D34 i7 x27 x29 x31 x33 (0 : Int32)).bind fun q39 => own_let q39.1 fun x40 => own_let q39.2 fun D39 =>
  if x38 = x40 then (b0_271 D39 i6 i7 x27 x29 x31 x33 x35 (1 : Int32)) else (b0_271 D39 i6 i7 x27 x29 x31 x33 x35 (0 : Int32))) else (some ((0 : Int32), D34))
set_option maxRecDepth 65536 in
set_option maxHeartbeats 40000000 in
theorem bt0_165 {p : Program} {l : Launch} {e : Env} {s : State} {m : MethodId} {args : Array Value} {below : List Frame} {meth : Method} {c : Code} {Z : State} {a0 : Array Value} {n0 : Nat} {D' : Hp} {r : Int32} {T0 : State} {locs : List Loc} {cells slots : Nat} {h0 : Heap} {D : Hp} {i0 : Int32} {i1 : Int32} {i2 : Int32} {i3 : Int32} {i4 : Int32} {i5 : Int32} {i6 : Int32} {i7 : Int32} {i8 : Int32} {i9 : Int32} {i10 : Int32} {ob11 : Nat} {i12 : Int32} {i13 : Int32} {i14 : Int32} {i15 : Int32} {ob16 : Nat} (hw : ∀ d ∈ tables_1, d.before a0 Z = true) (hC : Cx p s m meth c Z code maxLocals ret "com/example/planar_drawing_kit/planardrawingkit/decomposition/CountingStartsPinLaw" "law") (X0 : Stand p l e room_1 s m args below meth c T0 locs cells slots) (e0 : T0.heap = h0) (O0 : Ow Kt1 Z h0 n0 D) (N0 : Fr n0 locs) (hcc : cells ≤ 2) (hss : slots ≤ 11) (hf : b0_165 D i6 i7 i8 i9 i10 ob11 i12 i13 i14 i15 ob16 = some (r, D')) : Gl p e below s 16 128 (Qw Kt1 Z n0 (some (.int r)) D') (T0.setTop (mkF m 165 #[.val (.int i0), .val (.int i1), .val (.int i2), .val (.int i3), .val (.int i4), .val (.int i5), .val (.int i6), .val (.int i7), .val (.int i8), .val (.int i9), .val (.int i10), .val (.ref (n0 + ob11)), .val (.int i12), .val (.int i13), .val (.int i14), .val (.int i15), .val (.ref (n0 + ob16)), .unset, .unset, .unset, .unset, .unset, .unset] [])) := by
  obtain ⟨hx, hZ, hby, hml, hown, hnm, hret, hlk⟩ := id hC
  have hml : c.maxLocals = 23 := hml
  rw [b0_165] at hf
  obtain ⟨⟨x27, D26⟩, hq26, hf⟩ := own_bind hf
  obtain ⟨_, rfl, hf⟩ := own_letE hf
  obtain ⟨_, rfl, hf⟩ := own_letE hf
  obtain ⟨T26, h26, L26, X26, e26, O26, N26, st26⟩ := callSW X0 hx hZ (y := (⟨"com/example/planar_drawing_kit/planardrawingkit/decomposition/CountingStartsPinLaw", "keyOf", "(IIII)I"⟩ : MethodName)) hown (hw _ (List.mem_of_getElem? (i := 2) rfl)) (hw _ (List.mem_of_getElem? (i := 3) rfl)) (hw _ (List.mem_of_getElem? (i := 4) rfl)) (hw _ (List.mem_of_getElem? (i := 5) rfl)) (by decide) e0 O0 N0 (as' := [(.int i12), (.int i8), (.int i9), (.int i10)]) (ct1 hw hq26) (W := 0) (kc := 0) (ks := 0) rfl rfl (by decide) (by decide) (g := (mkF m 173 #[.val (.int i0), .val (.int i1), .val (.int i2), .val (.int i3), .val (.int i4), .val (.int i5), .val (.int i6), .val (.int i7), .val (.int i8), .val (.int i9), .val (.int i10), .val (.ref (n0 + ob11)), .val (.int i12), .val (.int i13), .val (.int i14), .val (.int i15), .val (.ref (n0 + ob16)), .unset, .unset, .unset, .unset, .unset, .unset] [(.int i10), (.int i9), (.int i8), (.int i12)])) rfl (by rw [hml]; rfl) (rest := []) (lenOf pd_0 rfl) rfl (by show 2 * 0 + _ ≤ _; exact Nat.le_of_eq rfl) (hb hby at_173) (by show _ + 0 ≤ 16; omega) (by show _ + 0 ≤ 128; omega)
  obtain ⟨⟨x29, D28⟩, hq28, hf⟩ := own_bind hf
  obtain ⟨_, rfl, hf⟩ := own_letE hf
  obtain ⟨_, rfl, hf⟩ := own_letE hf
  obtain ⟨T28, h28, L28, X28, e28, O28, N28, st28⟩ := callSW X26 hx hZ (y := (⟨"com/example/planar_drawing_kit/planardrawingkit/decomposition/CountingStartsPinLaw", "keyOf", "(IIII)I"⟩ : MethodName)) hown (hw _ (List.mem_of_getElem? (i := 2) rfl)) (hw _ (List.mem_of_getElem? (i := 3) rfl)) (hw _ (List.mem_of_getElem? (i := 4) rfl)) (hw _ (List.mem_of_getElem? (i := 5) rfl)) (by decide) e26 O26 N26 (as' := [(.int i13), (.int i8), (.int i9), (.int i10)]) (ct1 hw hq28) (W := 0) (kc := 0) (ks := 0) rfl rfl (by decide) (by decide) (g := (mkF m 186 #[.val (.int i0), .val (.int i1), .val (.int i2), .val (.int i3), .val (.int i4), .val (.int i5), .val (.int i6), .val (.int i7), .val (.int i8), .val (.int i9), .val (.int i10), .val (.ref (n0 + ob11)), .val (.int i12), .val (.int i13), .val (.int i14), .val (.int i15), .val (.ref (n0 + ob16)), .val (.int x27), .unset, .unset, .unset, .unset, .unset] [(.int i10), (.int i9), (.int i8), (.int i13)])) rfl (by rw [hml]; rfl) (rest := []) (lenOf pd_0 rfl) rfl (by show 2 * 0 + _ ≤ _; exact Nat.le_of_eq rfl) (hb hby at_186) (by show _ + 0 ≤ 16; omega) (by show _ + 0 ≤ 128; omega)
  obtain ⟨⟨x31, D30⟩, hq30, hf⟩ := own_bind hf
  obtain ⟨_, rfl, hf⟩ := own_letE hf
  obtain ⟨_, rfl, hf⟩ := own_letE hf
  obtain ⟨T30, h30, L30, X30, e30, O30, N30, st30⟩ := callSW X28 hx hZ (y := (⟨"com/example/planar_drawing_kit/planardrawingkit/decomposition/CountingStartsPinLaw", "keyOf", "(IIII)I"⟩ : MethodName)) hown (hw _ (List.mem_of_getElem? (i := 2) rfl)) (hw _ (List.mem_of_getElem? (i := 3) rfl)) (hw _ (List.mem_of_getElem? (i := 4) rfl)) (hw _ (List.mem_of_getElem? (i := 5) rfl)) (by decide) e28 O28 N28 (as' := [(.int i14), (.int i8), (.int i9), (.int i10)]) (ct1 hw hq30) (W := 0) (kc := 0) (ks := 0) rfl rfl (by decide) (by decide) (g := (mkF m 199 #[.val (.int i0), .val (.int i1), .val (.int i2), .val (.int i3), .val (.int i4), .val (.int i5), .val (.int i6), .val (.int i7), .val (.int i8), .val (.int i9), .val (.int i10), .val (.ref (n0 + ob11)), .val (.int i12), .val (.int i13), .val (.int i14), .val (.int i15), .val (.ref (n0 + ob16)), .val (.int x27), .val (.int x29), .unset, .unset, .unset, .unset] [(.int i10), (.int i9), (.int i8), (.int i14)])) rfl (by rw [hml]; rfl) (rest := []) (lenOf pd_0 rfl) rfl (by show 2 * 0 + _ ≤ _; exact Nat.le_of_eq rfl) (hb hby at_199) (by show _ + 0 ≤ 16; omega) (by show _ + 0 ≤ 128; omega)
  obtain ⟨⟨x33, D32⟩, hq32, hf⟩ := own_bind hf
  obtain ⟨_, rfl, hf⟩ := own_letE hf
  obtain ⟨_, rfl, hf⟩ := own_letE hf
  obtain ⟨T32, h32, L32, X32, e32, O32, N32, st32⟩ := callSW X30 hx hZ (y := (⟨"com/example/planar_drawing_kit/planardrawingkit/decomposition/CountingStartsPinLaw", "keyOf", "(IIII)I"⟩ : MethodName)) hown (hw _ (List.mem_of_getElem? (i := 2) rfl)) (hw _ (List.mem_of_getElem? (i := 3) rfl)) (hw _ (List.mem_of_getElem? (i := 4) rfl)) (hw _ (List.mem_of_getElem? (i := 5) rfl)) (by decide) e30 O30 N30 (as' := [(.int i15), (.int i8), (.int i9), (.int i10)]) (ct1 hw hq32) (W := 0) (kc := 0) (ks := 0) rfl rfl (by decide) (by decide) (g := (mkF m 212 #[.val (.int i0), .val (.int i1), .val (.int i2), .val (.int i3), .val (.int i4), .val (.int i5), .val (.int i6), .val (.int i7), .val (.int i8), .val (.int i9), .val (.int i10), .val (.ref (n0 + ob11)), .val (.int i12), .val (.int i13), .val (.int i14), .val (.int i15), .val (.ref (n0 + ob16)), .val (.int x27), .val (.int x29), .val (.int x31), .unset, .unset, .unset] [(.int i10), (.int i9), (.int i8), (.int i15)])) rfl (by rw [hml]; rfl) (rest := []) (lenOf pd_0 rfl) rfl (by show 2 * 0 + _ ≤ _; exact Nat.le_of_eq rfl) (hb hby at_212) (by show _ + 0 ≤ 16; omega) (by show _ + 0 ≤ 128; omega)
  obtain ⟨⟨x35, D34⟩, hq34, hf⟩ := own_bind hf
  obtain ⟨_, rfl, hf⟩ := own_letE hf
  obtain ⟨_, rfl, hf⟩ := own_letE hf
  obtain ⟨T34, h34, L34, X34, e34, O34, N34, st34⟩ := callSW X32 hx hZ (y := (⟨"com/example/planar_drawing_kit/planardrawingkit/decomposition/Counting", "starts", "([I[II)[I"⟩ : MethodName)) hown (hw _ (List.mem_of_getElem? (i := 6) rfl)) (hw _ (List.mem_of_getElem? (i := 7) rfl)) (hw _ (List.mem_of_getElem? (i := 8) rfl)) (hw _ (List.mem_of_getElem? (i := 9) rfl)) (by decide) e32 O32 N32 (as' := [(.ref (n0 + ob16)), (.ref (n0 + ob11)), (.int i6)]) (ct2 hw hq34) (W := 0) (kc := 1) (ks := 8) rfl rfl (by decide) (by decide) (g := (mkF m 223 #[.val (.int i0), .val (.int i1), .val (.int i2), .val (.int i3), .val (.int i4), .val (.int i5), .val (.int i6), .val (.int i7), .val (.int i8), .val (.int i9), .val (.int i10), .val (.ref (n0 + ob11)), .val (.int i12), .val (.int i13), .val (.int i14), .val (.int i15), .val (.ref (n0 + ob16)), .val (.int x27), .val (.int x29), .val (.int x31), .val (.int x33), .unset, .unset] [(.int i6), (.ref (n0 + ob11)), (.ref (n0 + ob16))])) rfl (by rw [hml]; rfl) (rest := []) (lenOf pd_1 rfl) rfl (by show 2 * 0 + _ ≤ _; exact Nat.le_of_eq rfl) (hb hby at_223) (by show _ + 1 ≤ 16; omega) (by show _ + 8 ≤ 128; omega)
  obtain ⟨x36, hx36, hf⟩ := own_bind hf
  refine Gl.on (B := T34.setTop (mkF m 240 #[.val (.int i0), .val (.int i1), .val (.int i2), .val (.int i3), .val (.int i4), .val (.int i5), .val (.int i6), .val (.int i7), .val (.int i8), .val (.int i9), .val (.int i10), .val (.ref (n0 + ob11)), .val (.int i12), .val (.int i13), .val (.int i14), .val (.int i15), .val (.ref (n0 + ob16)), .val (.int x27), .val (.int x29), .val (.int x31), .val (.int x33), .val (.ref (n0 + x35)), .unset] [(.int (i6 + (1 : Int32))), (.int x36)])) (fun t k => ?_) ?_
  · show Steps p.tables e below (T0.setTop (mkF m 165 #[.val (.int i0), .val (.int i1), .val (.int i2), .val (.int i3), .val (.int i4), .val (.int i5), .val (.int i6), .val (.int i7), .val (.int i8), .val (.int i9), .val (.int i10), .val (.ref (n0 + ob11)), .val (.int i12), .val (.int i13), .val (.int i14), .val (.int i15), .val (.ref (n0 + ob16)), .unset, .unset, .unset, .unset, .unset, .unset] [])) _
    refine XS.iload X0.here hx rfl (hb hby at_165) rfl ?_
    show Steps p.tables e below (T0.setTop (mkF m 167 #[.val (.int i0), .val (.int i1), .val (.int i2), .val (.int i3), .val (.int i4), .val (.int i5), .val (.int i6), .val (.int i7), .val (.int i8), .val (.int i9), .val (.int i10), .val (.ref (n0 + ob11)), .val (.int i12), .val (.int i13), .val (.int i14), .val (.int i15), .val (.ref (n0 + ob16)), .unset, .unset, .unset, .unset, .unset, .unset] [(.int i12)])) _
    refine XS.iload X0.here hx rfl (hb hby at_167) rfl ?_
    show Steps p.tables e below (T0.setTop (mkF m 169 #[.val (.int i0), .val (.int i1), .val (.int i2), .val (.int i3), .val (.int i4), .val (.int i5), .val (.int i6), .val (.int i7), .val (.int i8), .val (.int i9), .val (.int i10), .val (.ref (n0 + ob11)), .val (.int i12), .val (.int i13), .val (.int i14), .val (.int i15), .val (.ref (n0 + ob16)), .unset, .unset, .unset, .unset, .unset, .unset] [(.int i8), (.int i12)])) _
    refine XS.iload X0.here hx rfl (hb hby at_169) rfl ?_
    show Steps p.tables e below (T0.setTop (mkF m 171 #[.val (.int i0), .val (.int i1), .val (.int i2), .val (.int i3), .val (.int i4), .val (.int i5), .val (.int i6), .val (.int i7), .val (.int i8), .val (.int i9), .val (.int i10), .val (.ref (n0 + ob11)), .val (.int i12), .val (.int i13), .val (.int i14), .val (.int i15), .val (.ref (n0 + ob16)), .unset, .unset, .unset, .unset, .unset, .unset] [(.int i9), (.int i8), (.int i12)])) _
    refine XS.iload X0.here hx rfl (hb hby at_171) rfl ?_
    show Steps p.tables e below (T0.setTop (mkF m 173 #[.val (.int i0), .val (.int i1), .val (.int i2), .val (.int i3), .val (.int i4), .val (.int i5), .val (.int i6), .val (.int i7), .val (.int i8), .val (.int i9), .val (.int i10), .val (.ref (n0 + ob11)), .val (.int i12), .val (.int i13), .val (.int i14), .val (.int i15), .val (.ref (n0 + ob16)), .unset, .unset, .unset, .unset, .unset, .unset] [(.int i10), (.int i9), (.int i8), (.int i12)])) _
    refine st26 _ ?_
    show Steps p.tables e below (T26.setTop (mkF m 176 #[.val (.int i0), .val (.int i1), .val (.int i2), .val (.int i3), .val (.int i4), .val (.int i5), .val (.int i6), .val (.int i7), .val (.int i8), .val (.int i9), .val (.int i10), .val (.ref (n0 + ob11)), .val (.int i12), .val (.int i13), .val (.int i14), .val (.int i15), .val (.ref (n0 + ob16)), .unset, .unset, .unset, .unset, .unset, .unset] [(.int x27)])) _
    refine XS.istore X26.here hx rfl (hb hby at_176) rfl (l' := #[.val (.int i0), .val (.int i1), .val (.int i2), .val (.int i3), .val (.int i4), .val (.int i5), .val (.int i6), .val (.int i7), .val (.int i8), .val (.int i9), .val (.int i10), .val (.ref (n0 + ob11)), .val (.int i12), .val (.int i13), .val (.int i14), .val (.int i15), .val (.ref (n0 + ob16)), .val (.int x27), .unset, .unset, .unset, .unset, .unset]) rfl ?_
    show Steps p.tables e below (T26.setTop (mkF m 178 #[.val (.int i0), .val (.int i1), .val (.int i2), .val (.int i3), .val (.int i4), .val (.int i5), .val (.int i6), .val (.int i7), .val (.int i8), .val (.int i9), .val (.int i10), .val (.ref (n0 + ob11)), .val (.int i12), .val (.int i13), .val (.int i14), .val (.int i15), .val (.ref (n0 + ob16)), .val (.int x27), .unset, .unset, .unset, .unset, .unset] [])) _
    refine XS.iload X26.here hx rfl (hb hby at_178) rfl ?_
    show Steps p.tables e below (T26.setTop (mkF m 180 #[.val (.int i0), .val (.int i1), .val (.int i2), .val (.int i3), .val (.int i4), .val (.int i5), .val (.int i6), .val (.int i7), .val (.int i8), .val (.int i9), .val (.int i10), .val (.ref (n0 + ob11)), .val (.int i12), .val (.int i13), .val (.int i14), .val (.int i15), .val (.ref (n0 + ob16)), .val (.int x27), .unset, .unset, .unset, .unset, .unset] [(.int i13)])) _
    refine XS.iload X26.here hx rfl (hb hby at_180) rfl ?_
    show Steps p.tables e below (T26.setTop (mkF m 182 #[.val (.int i0), .val (.int i1), .val (.int i2), .val (.int i3), .val (.int i4), .val (.int i5), .val (.int i6), .val (.int i7), .val (.int i8), .val (.int i9), .val (.int i10), .val (.ref (n0 + ob11)), .val (.int i12), .val (.int i13), .val (.int i14), .val (.int i15), .val (.ref (n0 + ob16)), .val (.int x27), .unset, .unset, .unset, .unset, .unset] [(.int i8), (.int i13)])) _
    refine XS.iload X26.here hx rfl (hb hby at_182) rfl ?_
    show Steps p.tables e below (T26.setTop (mkF m 184 #[.val (.int i0), .val (.int i1), .val (.int i2), .val (.int i3), .val (.int i4), .val (.int i5), .val (.int i6), .val (.int i7), .val (.int i8), .val (.int i9), .val (.int i10), .val (.ref (n0 + ob11)), .val (.int i12), .val (.int i13), .val (.int i14), .val (.int i15), .val (.ref (n0 + ob16)), .val (.int x27), .unset, .unset, .unset, .unset, .unset] [(.int i9), (.int i8), (.int i13)])) _
    refine XS.iload X26.here hx rfl (hb hby at_184) rfl ?_
    show Steps p.tables e below (T26.setTop (mkF m 186 #[.val (.int i0), .val (.int i1), .val (.int i2), .val (.int i3), .val (.int i4), .val (.int i5), .val (.int i6), .val (.int i7), .val (.int i8), .val (.int i9), .val (.int i10), .val (.ref (n0 + ob11)), .val (.int i12), .val (.int i13), .val (.int i14), .val (.int i15), .val (.ref (n0 + ob16)), .val (.int x27), .unset, .unset, .unset, .unset, .unset] [(.int i10), (.int i9), (.int i8), (.int i13)])) _
    refine st28 _ ?_
    show Steps p.tables e below (T28.setTop (mkF m 189 #[.val (.int i0), .val (.int i1), .val (.int i2), .val (.int i3), .val (.int i4), .val (.int i5), .val (.int i6), .val (.int i7), .val (.int i8), .val (.int i9), .val (.int i10), .val (.ref (n0 + ob11)), .val (.int i12), .val (.int i13), .val (.int i14), .val (.int i15), .val (.ref (n0 + ob16)), .val (.int x27), .unset, .unset, .unset, .unset, .unset] [(.int x29)])) _
    refine XS.istore X28.here hx rfl (hb hby at_189) rfl (l' := #[.val (.int i0), .val (.int i1), .val (.int i2), .val (.int i3), .val (.int i4), .val (.int i5), .val (.int i6), .val (.int i7), .val (.int i8), .val (.int i9), .val (.int i10), .val (.ref (n0 + ob11)), .val (.int i12), .val (.int i13), .val (.int i14), .val (.int i15), .val (.ref (n0 + ob16)), .val (.int x27), .val (.int x29), .unset, .unset, .unset, .unset]) rfl ?_
    show Steps p.tables e below (T28.setTop (mkF m 191 #[.val (.int i0), .val (.int i1), .val (.int i2), .val (.int i3), .val (.int i4), .val (.int i5), .val (.int i6), .val (.int i7), .val (.int i8), .val (.int i9), .val (.int i10), .val (.ref (n0 + ob11)), .val (.int i12), .val (.int i13), .val (.int i14), .val (.int i15), .val (.ref (n0 + ob16)), .val (.int x27), .val (.int x29), .unset, .unset, .unset, .unset] [])) _
    refine XS.iload X28.here hx rfl (hb hby at_191) rfl ?_
    show Steps p.tables e below (T28.setTop (mkF m 193 #[.val (.int i0), .val (.int i1), .val (.int i2), .val (.int i3), .val (.int i4), .val (.int i5), .val (.int i6), .val (.int i7), .val (.int i8), .val (.int i9), .val (.int i10), .val (.ref (n0 + ob11)), .val (.int i12), .val (.int i13), .val (.int i14), .val (.int i15), .val (.ref (n0 + ob16)), .val (.int x27), .val (.int x29), .unset, .unset, .unset, .unset] [(.int i14)])) _
    refine XS.iload X28.here hx rfl (hb hby at_193) rfl ?_
    show Steps p.tables e below (T28.setTop (mkF m 195 #[.val (.int i0), .val (.int i1), .val (.int i2), .val (.int i3), .val (.int i4), .val (.int i5), .val (.int i6), .val (.int i7), .val (.int i8), .val (.int i9), .val (.int i10), .val (.ref (n0 + ob11)), .val (.int i12), .val (.int i13), .val (.int i14), .val (.int i15), .val (.ref (n0 + ob16)), .val (.int x27), .val (.int x29), .unset, .unset, .unset, .unset] [(.int i8), (.int i14)])) _
    refine XS.iload X28.here hx rfl (hb hby at_195) rfl ?_
    show Steps p.tables e below (T28.setTop (mkF m 197 #[.val (.int i0), .val (.int i1), .val (.int i2), .val (.int i3), .val (.int i4), .val (.int i5), .val (.int i6), .val (.int i7), .val (.int i8), .val (.int i9), .val (.int i10), .val (.ref (n0 + ob11)), .val (.int i12), .val (.int i13), .val (.int i14), .val (.int i15), .val (.ref (n0 + ob16)), .val (.int x27), .val (.int x29), .unset, .unset, .unset, .unset] [(.int i9), (.int i8), (.int i14)])) _
    refine XS.iload X28.here hx rfl (hb hby at_197) rfl ?_
    show Steps p.tables e below (T28.setTop (mkF m 199 #[.val (.int i0), .val (.int i1), .val (.int i2), .val (.int i3), .val (.int i4), .val (.int i5), .val (.int i6), .val (.int i7), .val (.int i8), .val (.int i9), .val (.int i10), .val (.ref (n0 + ob11)), .val (.int i12), .val (.int i13), .val (.int i14), .val (.int i15), .val (.ref (n0 + ob16)), .val (.int x27), .val (.int x29), .unset, .unset, .unset, .unset] [(.int i10), (.int i9), (.int i8), (.int i14)])) _
    refine st30 _ ?_
    show Steps p.tables e below (T30.setTop (mkF m 202 #[.val (.int i0), .val (.int i1), .val (.int i2), .val (.int i3), .val (.int i4), .val (.int i5), .val (.int i6), .val (.int i7), .val (.int i8), .val (.int i9), .val (.int i10), .val (.ref (n0 + ob11)), .val (.int i12), .val (.int i13), .val (.int i14), .val (.int i15), .val (.ref (n0 + ob16)), .val (.int x27), .val (.int x29), .unset, .unset, .unset, .unset] [(.int x31)])) _
    refine XS.istore X30.here hx rfl (hb hby at_202) rfl (l' := #[.val (.int i0), .val (.int i1), .val (.int i2), .val (.int i3), .val (.int i4), .val (.int i5), .val (.int i6), .val (.int i7), .val (.int i8), .val (.int i9), .val (.int i10), .val (.ref (n0 + ob11)), .val (.int i12), .val (.int i13), .val (.int i14), .val (.int i15), .val (.ref (n0 + ob16)), .val (.int x27), .val (.int x29), .val (.int x31), .unset, .unset, .unset]) rfl ?_
    show Steps p.tables e below (T30.setTop (mkF m 204 #[.val (.int i0), .val (.int i1), .val (.int i2), .val (.int i3), .val (.int i4), .val (.int i5), .val (.int i6), .val (.int i7), .val (.int i8), .val (.int i9), .val (.int i10), .val (.ref (n0 + ob11)), .val (.int i12), .val (.int i13), .val (.int i14), .val (.int i15), .val (.ref (n0 + ob16)), .val (.int x27), .val (.int x29), .val (.int x31), .unset, .unset, .unset] [])) _
    refine XS.iload X30.here hx rfl (hb hby at_204) rfl ?_
    show Steps p.tables e below (T30.setTop (mkF m 206 #[.val (.int i0), .val (.int i1), .val (.int i2), .val (.int i3), .val (.int i4), .val (.int i5), .val (.int i6), .val (.int i7), .val (.int i8), .val (.int i9), .val (.int i10), .val (.ref (n0 + ob11)), .val (.int i12), .val (.int i13), .val (.int i14), .val (.int i15), .val (.ref (n0 + ob16)), .val (.int x27), .val (.int x29), .val (.int x31), .unset, .unset, .unset] [(.int i15)])) _
    refine XS.iload X30.here hx rfl (hb hby at_206) rfl ?_
    show Steps p.tables e below (T30.setTop (mkF m 208 #[.val (.int i0), .val (.int i1), .val (.int i2), .val (.int i3), .val (.int i4), .val (.int i5), .val (.int i6), .val (.int i7), .val (.int i8), .val (.int i9), .val (.int i10), .val (.ref (n0 + ob11)), .val (.int i12), .val (.int i13), .val (.int i14), .val (.int i15), .val (.ref (n0 + ob16)), .val (.int x27), .val (.int x29), .val (.int x31), .unset, .unset, .unset] [(.int i8), (.int i15)])) _
    refine XS.iload X30.here hx rfl (hb hby at_208) rfl ?_
    show Steps p.tables e below (T30.setTop (mkF m 210 #[.val (.int i0), .val (.int i1), .val (.int i2), .val (.int i3), .val (.int i4), .val (.int i5), .val (.int i6), .val (.int i7), .val (.int i8), .val (.int i9), .val (.int i10), .val (.ref (n0 + ob11)), .val (.int i12), .val (.int i13), .val (.int i14), .val (.int i15), .val (.ref (n0 + ob16)), .val (.int x27), .val (.int x29), .val (.int x31), .unset, .unset, .unset] [(.int i9), (.int i8), (.int i15)])) _
    refine XS.iload X30.here hx rfl (hb hby at_210) rfl ?_
    show Steps p.tables e below (T30.setTop (mkF m 212 #[.val (.int i0), .val (.int i1), .val (.int i2), .val (.int i3), .val (.int i4), .val (.int i5), .val (.int i6), .val (.int i7), .val (.int i8), .val (.int i9), .val (.int i10), .val (.ref (n0 + ob11)), .val (.int i12), .val (.int i13), .val (.int i14), .val (.int i15), .val (.ref (n0 + ob16)), .val (.int x27), .val (.int x29), .val (.int x31), .unset, .unset, .unset] [(.int i10), (.int i9), (.int i8), (.int i15)])) _
    refine st32 _ ?_
    show Steps p.tables e below (T32.setTop (mkF m 215 #[.val (.int i0), .val (.int i1), .val (.int i2), .val (.int i3), .val (.int i4), .val (.int i5), .val (.int i6), .val (.int i7), .val (.int i8), .val (.int i9), .val (.int i10), .val (.ref (n0 + ob11)), .val (.int i12), .val (.int i13), .val (.int i14), .val (.int i15), .val (.ref (n0 + ob16)), .val (.int x27), .val (.int x29), .val (.int x31), .unset, .unset, .unset] [(.int x33)])) _
    refine XS.istore X32.here hx rfl (hb hby at_215) rfl (l' := #[.val (.int i0), .val (.int i1), .val (.int i2), .val (.int i3), .val (.int i4), .val (.int i5), .val (.int i6), .val (.int i7), .val (.int i8), .val (.int i9), .val (.int i10), .val (.ref (n0 + ob11)), .val (.int i12), .val (.int i13), .val (.int i14), .val (.int i15), .val (.ref (n0 + ob16)), .val (.int x27), .val (.int x29), .val (.int x31), .val (.int x33), .unset, .unset]) rfl ?_
    show Steps p.tables e below (T32.setTop (mkF m 217 #[.val (.int i0), .val (.int i1), .val (.int i2), .val (.int i3), .val (.int i4), .val (.int i5), .val (.int i6), .val (.int i7), .val (.int i8), .val (.int i9), .val (.int i10), .val (.ref (n0 + ob11)), .val (.int i12), .val (.int i13), .val (.int i14), .val (.int i15), .val (.ref (n0 + ob16)), .val (.int x27), .val (.int x29), .val (.int x31), .val (.int x33), .unset, .unset] [])) _
    refine XS.aload X32.here hx rfl (hb hby at_217) rfl rfl ?_
    show Steps p.tables e below (T32.setTop (mkF m 219 #[.val (.int i0), .val (.int i1), .val (.int i2), .val (.int i3), .val (.int i4), .val (.int i5), .val (.int i6), .val (.int i7), .val (.int i8), .val (.int i9), .val (.int i10), .val (.ref (n0 + ob11)), .val (.int i12), .val (.int i13), .val (.int i14), .val (.int i15), .val (.ref (n0 + ob16)), .val (.int x27), .val (.int x29), .val (.int x31), .val (.int x33), .unset, .unset] [(.ref (n0 + ob16))])) _
    refine XS.aload X32.here hx rfl (hb hby at_219) rfl rfl ?_
    show Steps p.tables e below (T32.setTop (mkF m 221 #[.val (.int i0), .val (.int i1), .val (.int i2), .val (.int i3), .val (.int i4), .val (.int i5), .val (.int i6), .val (.int i7), .val (.int i8), .val (.int i9), .val (.int i10), .val (.ref (n0 + ob11)), .val (.int i12), .val (.int i13), .val (.int i14), .val (.int i15), .val (.ref (n0 + ob16)), .val (.int x27), .val (.int x29), .val (.int x31), .val (.int x33), .unset, .unset] [(.ref (n0 + ob11)), (.ref (n0 + ob16))])) _
    refine XS.iload X32.here hx rfl (hb hby at_221) rfl ?_
    show Steps p.tables e below (T32.setTop (mkF m 223 #[.val (.int i0), .val (.int i1), .val (.int i2), .val (.int i3), .val (.int i4), .val (.int i5), .val (.int i6), .val (.int i7), .val (.int i8), .val (.int i9), .val (.int i10), .val (.ref (n0 + ob11)), .val (.int i12), .val (.int i13), .val (.int i14), .val (.int i15), .val (.ref (n0 + ob16)), .val (.int x27), .val (.int x29), .val (.int x31), .val (.int x33), .unset, .unset] [(.int i6), (.ref (n0 + ob11)), (.ref (n0 + ob16))])) _
    refine st34 _ ?_
    show Steps p.tables e below (T34.setTop (mkF m 226 #[.val (.int i0), .val (.int i1), .val (.int i2), .val (.int i3), .val (.int i4), .val (.int i5), .val (.int i6), .val (.int i7), .val (.int i8), .val (.int i9), .val (.int i10), .val (.ref (n0 + ob11)), .val (.int i12), .val (.int i13), .val (.int i14), .val (.int i15), .val (.ref (n0 + ob16)), .val (.int x27), .val (.int x29), .val (.int x31), .val (.int x33), .unset, .unset] [(.ref (n0 + x35))])) _
    refine XS.astore X34.here hx rfl (hb hby at_226) rfl rfl (l' := #[.val (.int i0), .val (.int i1), .val (.int i2), .val (.int i3), .val (.int i4), .val (.int i5), .val (.int i6), .val (.int i7), .val (.int i8), .val (.int i9), .val (.int i10), .val (.ref (n0 + ob11)), .val (.int i12), .val (.int i13), .val (.int i14), .val (.int i15), .val (.ref (n0 + ob16)), .val (.int x27), .val (.int x29), .val (.int x31), .val (.int x33), .val (.ref (n0 + x35)), .unset]) rfl ?_
    show Steps p.tables e below (T34.setTop (mkF m 228 #[.val (.int i0), .val (.int i1), .val (.int i2), .val (.int i3), .val (.int i4), .val (.int i5), .val (.int i6), .val (.int i7), .val (.int i8), .val (.int i9), .val (.int i10), .val (.ref (n0 + ob11)), .val (.int i12), .val (.int i13), .val (.int i14), .val (.int i15), .val (.ref (n0 + ob16)), .val (.int x27), .val (.int x29), .val (.int x31), .val (.int x33), .val (.ref (n0 + x35)), .unset] [])) _
    refine XS.aload X34.here hx rfl (hb hby at_228) rfl rfl ?_
    show Steps p.tables e below (T34.setTop (mkF m 230 #[.val (.int i0), .val (.int i1), .val (.int i2), .val (.int i3), .val (.int i4), .val (.int i5), .val (.int i6), .val (.int i7), .val (.int i8), .val (.int i9), .val (.int i10), .val (.ref (n0 + ob11)), .val (.int i12), .val (.int i13), .val (.int i14), .val (.int i15), .val (.ref (n0 + ob16)), .val (.int x27), .val (.int x29), .val (.int x31), .val (.int x33), .val (.ref (n0 + x35)), .unset] [(.ref (n0 + x35))])) _
    refine XS.ifnullNo X34.here hx rfl (hb hby at_230) rfl ?_
    show Steps p.tables e below (T34.setTop (mkF m 233 #[.val (.int i0), .val (.int i1), .val (.int i2), .val (.int i3), .val (.int i4), .val (.int i5), .val (.int i6), .val (.int i7), .val (.int i8), .val (.int i9), .val (.int i10), .val (.ref (n0 + ob11)), .val (.int i12), .val (.int i13), .val (.int i14), .val (.int i15), .val (.ref (n0 + ob16)), .val (.int x27), .val (.int x29), .val (.int x31), .val (.int x33), .val (.ref (n0 + x35)), .unset] [])) _
    refine XS.aload X34.here hx rfl (hb hby at_233) rfl rfl ?_
    show Steps p.tables e below (T34.setTop (mkF m 235 #[.val (.int i0), .val (.int i1), .val (.int i2), .val (.int i3), .val (.int i4), .val (.int i5), .val (.int i6), .val (.int i7), .val (.int i8), .val (.int i9), .val (.int i10), .val (.ref (n0 + ob11)), .val (.int i12), .val (.int i13), .val (.int i14), .val (.int i15), .val (.ref (n0 + ob16)), .val (.int x27), .val (.int x29), .val (.int x31), .val (.int x33), .val (.ref (n0 + x35)), .unset] [(.ref (n0 + x35))])) _
    refine lenW' X34 hx hZ e34 O34 hx36 (ty := .int) rfl (g := (mkF m 235 #[.val (.int i0), .val (.int i1), .val (.int i2), .val (.int i3), .val (.int i4), .val (.int i5), .val (.int i6), .val (.int i7), .val (.int i8), .val (.int i9), .val (.int i10), .val (.ref (n0 + ob11)), .val (.int i12), .val (.int i13), .val (.int i14), .val (.int i15), .val (.ref (n0 + ob16)), .val (.int x27), .val (.int x29), .val (.int x31), .val (.int x33), .val (.ref (n0 + x35)), .unset] [(.ref (n0 + x35))])) rfl rfl (hb hby at_235) _ ?_
    show Steps p.tables e below (T34.setTop (mkF m 236 #[.val (.int i0), .val (.int i1), .val (.int i2), .val (.int i3), .val (.int i4), .val (.int i5), .val (.int i6), .val (.int i7), .val (.int i8), .val (.int i9), .val (.int i10), .val (.ref (n0 + ob11)), .val (.int i12), .val (.int i13), .val (.int i14), .val (.int i15), .val (.ref (n0 + ob16)), .val (.int x27), .val (.int x29), .val (.int x31), .val (.int x33), .val (.ref (n0 + x35)), .unset] [(.int x36)])) _
    refine XS.iload X34.here hx rfl (hb hby at_236) rfl ?_
    show Steps p.tables e below (T34.setTop (mkF m 238 #[.val (.int i0), .val (.int i1), .val (.int i2), .val (.int i3), .val (.int i4), .val (.int i5), .val (.int i6), .val (.int i7), .val (.int i8), .val (.int i9), .val (.int i10), .val (.ref (n0 + ob11)), .val (.int i12), .val (.int i13), .val (.int i14), .val (.int i15), .val (.ref (n0 + ob16)), .val (.int x27), .val (.int x29), .val (.int x31), .val (.int x33), .val (.ref (n0 + x35)), .unset] [(.int i6), (.int x36)])) _
    refine XS.iconst X34.here hx rfl (hb hby at_238) ?_
    show Steps p.tables e below (T34.setTop (mkF m 239 #[.val (.int i0), .val (.int i1), .val (.int i2), .val (.int i3), .val (.int i4), .val (.int i5), .val (.int i6), .val (.int i7), .val (.int i8), .val (.int i9), .val (.int i10), .val (.ref (n0 + ob11)), .val (.int i12), .val (.int i13), .val (.int i14), .val (.int i15), .val (.ref (n0 + ob16)), .val (.int x27), .val (.int x29), .val (.int x31), .val (.int x33), .val (.ref (n0 + x35)), .unset] [(.int (1 : Int32)), (.int i6), (.int x36)])) _
    refine XS.iadd X34.here hx rfl (hb hby at_239) rfl ?_
    exact k
  by_cases hc37 : x36 = (i6 + (1 : Int32))
  · rw [if_pos hc37] at hf
    obtain ⟨x38, hx38, hf⟩ := own_bind hf
    obtain ⟨⟨x40, D39⟩, hq39, hf⟩ := own_bind hf
    obtain ⟨_, rfl, hf⟩ := own_letE hf
    obtain ⟨_, rfl, hf⟩ := own_letE hf
    obtain ⟨T39, h39, L39, X39, e39, O39, N39, st39⟩ := callSW X34 hx hZ (y := (⟨"com/example/planar_drawing_kit/planardrawingkit/decomposition/CountingStartsPinLaw", "below", "(IIIIII)I"⟩ : MethodName)) hown (hw _ (List.mem_of_getElem? (i := 10) rfl)) (hw _ (List.mem_of_getElem? (i := 11) rfl)) (hw _ (List.mem_of_getElem? (i := 4) rfl)) (hw _ (List.mem_of_getElem? (i := 12) rfl)) (by decide) e34 O34 N34 (as' := [(.int i7), (.int x27), (.int x29), (.int x31), (.int x33), (.int (0 : Int32))]) (ct3 hw hq39) (W := 1) (kc := 0) (ks := 0) rfl rfl (by decide) (by decide) (g := (mkF m 260 #[.val (.int i0), .val (.int i1), .val (.int i2), .val (.int i3), .val (.int i4), .val (.int i5), .val (.int i6), .val (.int i7), .val (.int i8), .val (.int i9), .val (.int i10), .val (.ref (n0 + ob11)), .val (.int i12), .val (.int i13), .val (.int i14), .val (.int i15), .val (.ref (n0 + ob16)), .val (.int x27), .val (.int x29), .val (.int x31), .val (.int x33), .val (.ref (n0 + x35)), .unset] [(.int (0 : Int32)), (.int x33), (.int x31), (.int x29), (.int x27), (.int i7), (.int x38)])) rfl (by rw [hml]; rfl) (rest := [(.int x38)]) (lenOf pd_2 rfl) rfl (by show 2 * 0 + _ ≤ _; exact Nat.le_of_eq rfl) (hb hby at_260) (by show _ + 0 ≤ 16; omega) (by show _ + 0 ≤ 128; omega)
    refine Gl.on (B := T39.setTop (mkF m 263 #[.val (.int i0), .val (.int i1), .val (.int i2), .val (.int i3), .val (.int i4), .val (.int i5), .val (.int i6), .val (.int i7), .val (.int i8), .val (.int i9), .val (.int i10), .val (.ref (n0 + ob11)), .val (.int i12), .val (.int i13), .val (.int i14), .val (.int i15), .val (.ref (n0 + ob16)), .val (.int x27), .val (.int x29), .val (.int x31), .val (.int x33), .val (.ref (n0 + x35)), .unset] [(.int x40), (.int x38)])) (fun t k => ?_) ?_
    · show Steps p.tables e below (T34.setTop (mkF m 240 #[.val (.int i0), .val (.int i1), .val (.int i2), .val (.int i3), .val (.int i4), .val (.int i5), .val (.int i6), .val (.int i7), .val (.int i8), .val (.int i9), .val (.int i10), .val (.ref (n0 + ob11)), .val (.int i12), .val (.int i13), .val (.int i14), .val (.int i15), .val (.ref (n0 + ob16)), .val (.int x27), .val (.int x29), .val (.int x31), .val (.int x33), .val (.ref (n0 + x35)), .unset] [(.int (i6 + (1 : Int32))), (.int x36)])) _
      refine XS.icmpYes X34.here hx rfl (pc0 := 240) (pc' := 245) rfl (hb hby at_240) rfl (teq hc37).1 (by decide) (by decide) ?_
      show Steps p.tables e below (T34.setTop (mkF m 245 #[.val (.int i0), .val (.int i1), .val (.int i2), .val (.int i3), .val (.int i4), .val (.int i5), .val (.int i6), .val (.int i7), .val (.int i8), .val (.int i9), .val (.int i10), .val (.ref (n0 + ob11)), .val (.int i12), .val (.int i13), .val (.int i14), .val (.int i15), .val (.ref (n0 + ob16)), .val (.int x27), .val (.int x29), .val (.int x31), .val (.int x33), .val (.ref (n0 + x35)), .unset] [])) _
      refine XS.aload X34.here hx rfl (hb hby at_245) rfl rfl ?_
      show Steps p.tables e below (T34.setTop (mkF m 247 #[.val (.int i0), .val (.int i1), .val (.int i2), .val (.int i3), .val (.int i4), .val (.int i5), .val (.int i6), .val (.int i7), .val (.int i8), .val (.int i9), .val (.int i10), .val (.ref (n0 + ob11)), .val (.int i12), .val (.int i13), .val (.int i14), .val (.int i15), .val (.ref (n0 + ob16)), .val (.int x27), .val (.int x29), .val (.int x31), .val (.int x33), .val (.ref (n0 + x35)), .unset] [(.ref (n0 + x35))])) _
      refine XS.iconst X34.here hx rfl (hb hby at_247) ?_
      show Steps p.tables e below (T34.setTop (mkF m 248 #[.val (.int i0), .val (.int i1), .val (.int i2), .val (.int i3), .val (.int i4), .val (.int i5), .val (.int i6), .val (.int i7), .val (.int i8), .val (.int i9), .val (.int i10), .val (.ref (n0 + ob11)), .val (.int i12), .val (.int i13), .val (.int i14), .val (.int i15), .val (.ref (n0 + ob16)), .val (.int x27), .val (.int x29), .val (.int x31), .val (.int x33), .val (.ref (n0 + x35)), .unset] [(.int (0 : Int32)), (.ref (n0 + x35))])) _
      refine ldW X34 hx hZ e34 O34 hx38 rfl (g := (mkF m 248 #[.val (.int i0), .val (.int i1), .val (.int i2), .val (.int i3), .val (.int i4), .val (.int i5), .val (.int i6), .val (.int i7), .val (.int i8), .val (.int i9), .val (.int i10), .val (.ref (n0 + ob11)), .val (.int i12), .val (.int i13), .val (.int i14), .val (.int i15), .val (.ref (n0 + ob16)), .val (.int x27), .val (.int x29), .val (.int x31), .val (.int x33), .val (.ref (n0 + x35)), .unset] [(.int (0 : Int32)), (.ref (n0 + x35))])) rfl rfl (hb hby at_248) _ ?_
      show Steps p.tables e below (T34.setTop (mkF m 249 #[.val (.int i0), .val (.int i1), .val (.int i2), .val (.int i3), .val (.int i4), .val (.int i5), .val (.int i6), .val (.int i7), .val (.int i8), .val (.int i9), .val (.int i10), .val (.ref (n0 + ob11)), .val (.int i12), .val (.int i13), .val (.int i14), .val (.int i15), .val (.ref (n0 + ob16)), .val (.int x27), .val (.int x29), .val (.int x31), .val (.int x33), .val (.ref (n0 + x35)), .unset] [(.int x38)])) _
      refine XS.iload X34.here hx rfl (hb hby at_249) rfl ?_
      show Steps p.tables e below (T34.setTop (mkF m 251 #[.val (.int i0), .val (.int i1), .val (.int i2), .val (.int i3), .val (.int i4), .val (.int i5), .val (.int i6), .val (.int i7), .val (.int i8), .val (.int i9), .val (.int i10), .val (.ref (n0 + ob11)), .val (.int i12), .val (.int i13), .val (.int i14), .val (.int i15), .val (.ref (n0 + ob16)), .val (.int x27), .val (.int x29), .val (.int x31), .val (.int x33), .val (.ref (n0 + x35)), .unset] [(.int i7), (.int x38)])) _
      refine XS.iload X34.here hx rfl (hb hby at_251) rfl ?_
      show Steps p.tables e below (T34.setTop (mkF m 253 #[.val (.int i0), .val (.int i1), .val (.int i2), .val (.int i3), .val (.int i4), .val (.int i5), .val (.int i6), .val (.int i7), .val (.int i8), .val (.int i9), .val (.int i10), .val (.ref (n0 + ob11)), .val (.int i12), .val (.int i13), .val (.int i14), .val (.int i15), .val (.ref (n0 + ob16)), .val (.int x27), .val (.int x29), .val (.int x31), .val (.int x33), .val (.ref (n0 + x35)), .unset] [(.int x27), (.int i7), (.int x38)])) _
      refine XS.iload X34.here hx rfl (hb hby at_253) rfl ?_
      show Steps p.tables e below (T34.setTop (mkF m 255 #[.val (.int i0), .val (.int i1), .val (.int i2), .val (.int i3), .val (.int i4), .val (.int i5), .val (.int i6), .val (.int i7), .val (.int i8), .val (.int i9), .val (.int i10), .val (.ref (n0 + ob11)), .val (.int i12), .val (.int i13), .val (.int i14), .val (.int i15), .val (.ref (n0 + ob16)), .val (.int x27), .val (.int x29), .val (.int x31), .val (.int x33), .val (.ref (n0 + x35)), .unset] [(.int x29), (.int x27), (.int i7), (.int x38)])) _
      refine XS.iload X34.here hx rfl (hb hby at_255) rfl ?_
      show Steps p.tables e below (T34.setTop (mkF m 257 #[.val (.int i0), .val (.int i1), .val (.int i2), .val (.int i3), .val (.int i4), .val (.int i5), .val (.int i6), .val (.int i7), .val (.int i8), .val (.int i9), .val (.int i10), .val (.ref (n0 + ob11)), .val (.int i12), .val (.int i13), .val (.int i14), .val (.int i15), .val (.ref (n0 + ob16)), .val (.int x27), .val (.int x29), .val (.int x31), .val (.int x33), .val (.ref (n0 + x35)), .unset] [(.int x31), (.int x29), (.int x27), (.int i7), (.int x38)])) _
      refine XS.iload X34.here hx rfl (hb hby at_257) rfl ?_
      show Steps p.tables e below (T34.setTop (mkF m 259 #[.val (.int i0), .val (.int i1), .val (.int i2), .val (.int i3), .val (.int i4), .val (.int i5), .val (.int i6), .val (.int i7), .val (.int i8), .val (.int i9), .val (.int i10), .val (.ref (n0 + ob11)), .val (.int i12), .val (.int i13), .val (.int i14), .val (.int i15), .val (.ref (n0 + ob16)), .val (.int x27), .val (.int x29), .val (.int x31), .val (.int x33), .val (.ref (n0 + x35)), .unset] [(.int x33), (.int x31), (.int x29), (.int x27), (.int i7), (.int x38)])) _
      refine XS.iconst X34.here hx rfl (hb hby at_259) ?_
      show Steps p.tables e below (T34.setTop (mkF m 260 #[.val (.int i0), .val (.int i1), .val (.int i2), .val (.int i3), .val (.int i4), .val (.int i5), .val (.int i6), .val (.int i7), .val (.int i8), .val (.int i9), .val (.int i10), .val (.ref (n0 + ob11)), .val (.int i12), .val (.int i13), .val (.int i14), .val (.int i15), .val (.ref (n0 + ob16)), .val (.int x27), .val (.int x29), .val (.int x31), .val (.int x33), .val (.ref (n0 + x35)), .unset] [(.int (0 : Int32)), (.int x33), (.int x31), (.int x29), (.int x27), (.int i7), (.int x38)])) _
      refine st39 _ ?_
      exact k
    by_cases hc41 : x38 = x40
    · rw [if_pos hc41] at hf
      refine Gl.on (B := T39.setTop (mkF m 271 #[.val (.int i0), .val (.int i1), .val (.int i2), .val (.int i3), .val (.int i4), .val (.int i5), .val (.int i6), .val (.int i7), .val (.int i8), .val (.int i9), .val (.int i10), .val (.ref (n0 + ob11)), .val (.int i12), .val (.int i13), .val (.int i14), .val (.int i15), .val (.ref (n0 + ob16)), .val (.int x27), .val (.int x29), .val (.int x31), .val (.int x33), .val (.ref (n0 + x35)), .unset] [(.int (1 : Int32))])) (fun t k => ?_) ?_
      · show Steps p.tables e below (T39.setTop (mkF m 263 #[.val (.int i0), .val (.int i1), .val (.int i2), .val (.int i3), .val (.int i4), .val (.int i5), .val (.int i6), .val (.int i7), .val (.int i8), .val (.int i9), .val (.int i10), .val (.ref (n0 + ob11)), .val (.int i12), .val (.int i13), .val (.int i14), .val (.int i15), .val (.ref (n0 + ob16)), .val (.int x27), .val (.int x29), .val (.int x31), .val (.int x33), .val (.ref (n0 + x35)), .unset] [(.int x40), (.int x38)])) _
        refine XS.icmpNo X39.here hx rfl (hb hby at_263) rfl (teq hc41).2 ?_
        show Steps p.tables e below (T39.setTop (mkF m 266 #[.val (.int i0), .val (.int i1), .val (.int i2), .val (.int i3), .val (.int i4), .val (.int i5), .val (.int i6), .val (.int i7), .val (.int i8), .val (.int i9), .val (.int i10), .val (.ref (n0 + ob11)), .val (.int i12), .val (.int i13), .val (.int i14), .val (.int i15), .val (.ref (n0 + ob16)), .val (.int x27), .val (.int x29), .val (.int x31), .val (.int x33), .val (.ref (n0 + x35)), .unset] [])) _
        refine XS.iconst X39.here hx rfl (hb hby at_266) ?_
        show Steps p.tables e below (T39.setTop (mkF m 267 #[.val (.int i0), .val (.int i1), .val (.int i2), .val (.int i3), .val (.int i4), .val (.int i5), .val (.int i6), .val (.int i7), .val (.int i8), .val (.int i9), .val (.int i10), .val (.ref (n0 + ob11)), .val (.int i12), .val (.int i13), .val (.int i14), .val (.int i15), .val (.ref (n0 + ob16)), .val (.int x27), .val (.int x29), .val (.int x31), .val (.int x33), .val (.ref (n0 + x35)), .unset] [(.int (1 : Int32))])) _
        refine XS.goto X39.here hx rfl (pc0 := 267) (pc' := 271) rfl (hb hby at_267) (by decide) (by decide) ?_
        exact k
      exact bt0_271 hw hC X39 e39 O39 N39 (by omega) (by omega) hf
    · rw [if_neg hc41] at hf
      refine Gl.on (B := T39.setTop (mkF m 271 #[.val (.int i0), .val (.int i1), .val (.int i2), .val (.int i3), .val (.int i4), .val (.int i5), .val (.int i6), .val (.int i7), .val (.int i8), .val (.int i9), .val (.int i10), .val (.ref (n0 + ob11)), .val (.int i12), .val (.int i13), .val (.int i14), .val (.int i15), .val (.ref (n0 + ob16)), .val (.int x27), .val (.int x29), .val (.int x31), .val (.int x33), .val (.ref (n0 + x35)), .unset] [(.int (0 : Int32))])) (fun t k => ?_) ?_
      · show Steps p.tables e below (T39.setTop (mkF m 263 #[.val (.int i0), .val (.int i1), .val (.int i2), .val (.int i3), .val (.int i4), .val (.int i5), .val (.int i6), .val (.int i7), .val (.int i8), .val (.int i9), .val (.int i10), .val (.ref (n0 + ob11)), .val (.int i12), .val (.int i13), .val (.int i14), .val (.int i15), .val (.ref (n0 + ob16)), .val (.int x27), .val (.int x29), .val (.int x31), .val (.int x33), .val (.ref (n0 + x35)), .unset] [(.int x40), (.int x38)])) _
        refine XS.icmpYes X39.here hx rfl (pc0 := 263) (pc' := 270) rfl (hb hby at_263) rfl (feq hc41).2 (by decide) (by decide) ?_
        show Steps p.tables e below (T39.setTop (mkF m 270 #[.val (.int i0), .val (.int i1), .val (.int i2), .val (.int i3), .val (.int i4), .val (.int i5), .val (.int i6), .val (.int i7), .val (.int i8), .val (.int i9), .val (.int i10), .val (.ref (n0 + ob11)), .val (.int i12), .val (.int i13), .val (.int i14), .val (.int i15), .val (.ref (n0 + ob16)), .val (.int x27), .val (.int x29), .val (.int x31), .val (.int x33), .val (.ref (n0 + x35)), .unset] [])) _
        refine XS.iconst X39.here hx rfl (hb hby at_270) ?_
        exact k
      exact bt0_271 hw hC X39 e39 O39 N39 (by omega) (by omega) hf
  · rw [if_neg hc37] at hf
    refine Gl.on (B := T34.setTop (mkF m 244 #[.val (.int i0), .val (.int i1), .val (.int i2), .val (.int i3), .val (.int i4), .val (.int i5), .val (.int i6), .val (.int i7), .val (.int i8), .val (.int i9), .val (.int i10), .val (.ref (n0 + ob11)), .val (.int i12), .val (.int i13), .val (.int i14), .val (.int i15), .val (.ref (n0 + ob16)), .val (.int x27), .val (.int x29), .val (.int x31), .val (.int x33), .val (.ref (n0 + x35)), .unset] [(.int (0 : Int32))])) (fun t k => ?_) ?_
    · show Steps p.tables e below (T34.setTop (mkF m 240 #[.val (.int i0), .val (.int i1), .val (.int i2), .val (.int i3), .val (.int i4), .val (.int i5), .val (.int i6), .val (.int i7), .val (.int i8), .val (.int i9), .val (.int i10), .val (.ref (n0 + ob11)), .val (.int i12), .val (.int i13), .val (.int i14), .val (.int i15), .val (.ref (n0 + ob16)), .val (.int x27), .val (.int x29), .val (.int x31), .val (.int x33), .val (.ref (n0 + x35)), .unset] [(.int (i6 + (1 : Int32))), (.int x36)])) _
      refine XS.icmpNo X34.here hx rfl (hb hby at_240) rfl (feq hc37).1 ?_
      show Steps p.tables e below (T34.setTop (mkF m 243 #[.val (.int i0), .val (.int i1), .val (.int i2), .val (.int i3), .val (.int i4), .val (.int i5), .val (.int i6), .val (.int i7), .val (.int i8), .val (.int i9), .val (.int i10), .val (.ref (n0 + ob11)), .val (.int i12), .val (.int i13), .val (.int i14), .val (.int i15), .val (.ref (n0 + ob16)), .val (.int x27), .val (.int x29), .val (.int x31), .val (.int x33), .val (.ref (n0 + x35)), .unset] [])) _
      refine XS.iconst X34.here hx rfl (hb hby at_243) ?_
      exact k
    obtain ⟨rfl, rfl⟩ := own_inj hf
    exact Gl.outN X34 hx hlk (t := .boolean) hret (by simp) (hb hby at_244) ⟨rfl, N34, by rw [e34]; exact O34⟩ (by show _ ≤ 16; omega) (by show _ ≤ 128; omega)
def b0_153 (D : Hp) (i6 : Int32) (i7 : Int32) (i8 : Int32) (i9 : Int32) (i10 : Int32) (ob11 : Nat) (i12 : Int32) (i13 : Int32) (i14 : Int32) (i15 : Int32) (ob16 : Nat) : Option (Int32 × Hp) :=
  if (3 : Int32) < i7 then ((wV D ob16 0 (3 : Int32) (.int i15)).bind fun D25 =>
  b0_165 D25 i6 i7 i8 i9 i10 ob11 i12 i13 i14 i15 ob16) else (b0_165 D i6 i7 i8 i9 i10 ob11 i12 i13 i14 i15 ob16)
set_option maxRecDepth 65536 in
set_option maxHeartbeats 40000000 in
theorem bt0_153 {p : Program} {l : Launch} {e : Env} {s : State} {m : MethodId} {args : Array Value} {below : List Frame} {meth : Method} {c : Code} {Z : State} {a0 : Array Value} {n0 : Nat} {D' : Hp} {r : Int32} {T0 : State} {locs : List Loc} {cells slots : Nat} {h0 : Heap} {D : Hp} {i0 : Int32} {i1 : Int32} {i2 : Int32} {i3 : Int32} {i4 : Int32} {i5 : Int32} {i6 : Int32} {i7 : Int32} {i8 : Int32} {i9 : Int32} {i10 : Int32} {ob11 : Nat} {i12 : Int32} {i13 : Int32} {i14 : Int32} {i15 : Int32} {ob16 : Nat} (hw : ∀ d ∈ tables_1, d.before a0 Z = true) (hC : Cx p s m meth c Z code maxLocals ret "com/example/planar_drawing_kit/planardrawingkit/decomposition/CountingStartsPinLaw" "law") (X0 : Stand p l e room_1 s m args below meth c T0 locs cells slots) (e0 : T0.heap = h0) (O0 : Ow Kt1 Z h0 n0 D) (N0 : Fr n0 locs) (hcc : cells ≤ 2) (hss : slots ≤ 11) (hf : b0_153 D i6 i7 i8 i9 i10 ob11 i12 i13 i14 i15 ob16 = some (r, D')) : Gl p e below s 16 128 (Qw Kt1 Z n0 (some (.int r)) D') (T0.setTop (mkF m 153 #[.val (.int i0), .val (.int i1), .val (.int i2), .val (.int i3), .val (.int i4), .val (.int i5), .val (.int i6), .val (.int i7), .val (.int i8), .val (.int i9), .val (.int i10), .val (.ref (n0 + ob11)), .val (.int i12), .val (.int i13), .val (.int i14), .val (.int i15), .val (.ref (n0 + ob16)), .unset, .unset, .unset, .unset, .unset, .unset] [])) := by
  obtain ⟨hx, hZ, hby, hml, hown, hnm, hret, hlk⟩ := id hC
  have hml : c.maxLocals = 23 := hml
  rw [b0_153] at hf
  refine Gl.on (B := T0.setTop (mkF m 156 #[.val (.int i0), .val (.int i1), .val (.int i2), .val (.int i3), .val (.int i4), .val (.int i5), .val (.int i6), .val (.int i7), .val (.int i8), .val (.int i9), .val (.int i10), .val (.ref (n0 + ob11)), .val (.int i12), .val (.int i13), .val (.int i14), .val (.int i15), .val (.ref (n0 + ob16)), .unset, .unset, .unset, .unset, .unset, .unset] [(.int (3 : Int32)), (.int i7)])) (fun t k => ?_) ?_
  · show Steps p.tables e below (T0.setTop (mkF m 153 #[.val (.int i0), .val (.int i1), .val (.int i2), .val (.int i3), .val (.int i4), .val (.int i5), .val (.int i6), .val (.int i7), .val (.int i8), .val (.int i9), .val (.int i10), .val (.ref (n0 + ob11)), .val (.int i12), .val (.int i13), .val (.int i14), .val (.int i15), .val (.ref (n0 + ob16)), .unset, .unset, .unset, .unset, .unset, .unset] [])) _
    refine XS.iload X0.here hx rfl (hb hby at_153) rfl ?_
    show Steps p.tables e below (T0.setTop (mkF m 155 #[.val (.int i0), .val (.int i1), .val (.int i2), .val (.int i3), .val (.int i4), .val (.int i5), .val (.int i6), .val (.int i7), .val (.int i8), .val (.int i9), .val (.int i10), .val (.ref (n0 + ob11)), .val (.int i12), .val (.int i13), .val (.int i14), .val (.int i15), .val (.ref (n0 + ob16)), .unset, .unset, .unset, .unset, .unset, .unset] [(.int i7)])) _
    refine XS.iconst X0.here hx rfl (hb hby at_155) ?_
    exact k
  by_cases hc24 : (3 : Int32) < i7
  · rw [if_pos hc24] at hf
    obtain ⟨D25, hq25, hf⟩ := own_bind hf
    obtain ⟨T25, h25, L25, X25, e25, O25, N25, st25⟩ := stIW X0 hx hZ e0 O0 N0 hq25 rfl (g := (mkF m 164 #[.val (.int i0), .val (.int i1), .val (.int i2), .val (.int i3), .val (.int i4), .val (.int i5), .val (.int i6), .val (.int i7), .val (.int i8), .val (.int i9), .val (.int i10), .val (.ref (n0 + ob11)), .val (.int i12), .val (.int i13), .val (.int i14), .val (.int i15), .val (.ref (n0 + ob16)), .unset, .unset, .unset, .unset, .unset, .unset] [(.int i15), (.int (3 : Int32)), (.ref (n0 + ob16))])) rfl rfl (hb hby at_164)
    refine Gl.on (B := T25.setTop (mkF m 165 #[.val (.int i0), .val (.int i1), .val (.int i2), .val (.int i3), .val (.int i4), .val (.int i5), .val (.int i6), .val (.int i7), .val (.int i8), .val (.int i9), .val (.int i10), .val (.ref (n0 + ob11)), .val (.int i12), .val (.int i13), .val (.int i14), .val (.int i15), .val (.ref (n0 + ob16)), .unset, .unset, .unset, .unset, .unset, .unset] [])) (fun t k => ?_) ?_
    · show Steps p.tables e below (T0.setTop (mkF m 156 #[.val (.int i0), .val (.int i1), .val (.int i2), .val (.int i3), .val (.int i4), .val (.int i5), .val (.int i6), .val (.int i7), .val (.int i8), .val (.int i9), .val (.int i10), .val (.ref (n0 + ob11)), .val (.int i12), .val (.int i13), .val (.int i14), .val (.int i15), .val (.ref (n0 + ob16)), .unset, .unset, .unset, .unset, .unset, .unset] [(.int (3 : Int32)), (.int i7)])) _
      refine XS.icmpNo X0.here hx rfl (hb hby at_156) rfl (tlt hc24).2.2.2 ?_
      show Steps p.tables e below (T0.setTop (mkF m 159 #[.val (.int i0), .val (.int i1), .val (.int i2), .val (.int i3), .val (.int i4), .val (.int i5), .val (.int i6), .val (.int i7), .val (.int i8), .val (.int i9), .val (.int i10), .val (.ref (n0 + ob11)), .val (.int i12), .val (.int i13), .val (.int i14), .val (.int i15), .val (.ref (n0 + ob16)), .unset, .unset, .unset, .unset, .unset, .unset] [])) _
      refine XS.aload X0.here hx rfl (hb hby at_159) rfl rfl ?_
      show Steps p.tables e below (T0.setTop (mkF m 161 #[.val (.int i0), .val (.int i1), .val (.int i2), .val (.int i3), .val (.int i4), .val (.int i5), .val (.int i6), .val (.int i7), .val (.int i8), .val (.int i9), .val (.int i10), .val (.ref (n0 + ob11)), .val (.int i12), .val (.int i13), .val (.int i14), .val (.int i15), .val (.ref (n0 + ob16)), .unset, .unset, .unset, .unset, .unset, .unset] [(.ref (n0 + ob16))])) _
      refine XS.iconst X0.here hx rfl (hb hby at_161) ?_
      show Steps p.tables e below (T0.setTop (mkF m 162 #[.val (.int i0), .val (.int i1), .val (.int i2), .val (.int i3), .val (.int i4), .val (.int i5), .val (.int i6), .val (.int i7), .val (.int i8), .val (.int i9), .val (.int i10), .val (.ref (n0 + ob11)), .val (.int i12), .val (.int i13), .val (.int i14), .val (.int i15), .val (.ref (n0 + ob16)), .unset, .unset, .unset, .unset, .unset, .unset] [(.int (3 : Int32)), (.ref (n0 + ob16))])) _
      refine XS.iload X0.here hx rfl (hb hby at_162) rfl ?_
      show Steps p.tables e below (T0.setTop (mkF m 164 #[.val (.int i0), .val (.int i1), .val (.int i2), .val (.int i3), .val (.int i4), .val (.int i5), .val (.int i6), .val (.int i7), .val (.int i8), .val (.int i9), .val (.int i10), .val (.ref (n0 + ob11)), .val (.int i12), .val (.int i13), .val (.int i14), .val (.int i15), .val (.ref (n0 + ob16)), .unset, .unset, .unset, .unset, .unset, .unset] [(.int i15), (.int (3 : Int32)), (.ref (n0 + ob16))])) _
      refine st25 _ ?_
      exact k
    exact bt0_165 hw hC X25 e25 O25 N25 (by omega) (by omega) hf
  · rw [if_neg hc24] at hf
    refine Gl.on (B := T0.setTop (mkF m 165 #[.val (.int i0), .val (.int i1), .val (.int i2), .val (.int i3), .val (.int i4), .val (.int i5), .val (.int i6), .val (.int i7), .val (.int i8), .val (.int i9), .val (.int i10), .val (.ref (n0 + ob11)), .val (.int i12), .val (.int i13), .val (.int i14), .val (.int i15), .val (.ref (n0 + ob16)), .unset, .unset, .unset, .unset, .unset, .unset] [])) (fun t k => ?_) ?_
    · show Steps p.tables e below (T0.setTop (mkF m 156 #[.val (.int i0), .val (.int i1), .val (.int i2), .val (.int i3), .val (.int i4), .val (.int i5), .val (.int i6), .val (.int i7), .val (.int i8), .val (.int i9), .val (.int i10), .val (.ref (n0 + ob11)), .val (.int i12), .val (.int i13), .val (.int i14), .val (.int i15), .val (.ref (n0 + ob16)), .unset, .unset, .unset, .unset, .unset, .unset] [(.int (3 : Int32)), (.int i7)])) _
      refine XS.icmpYes X0.here hx rfl (pc0 := 156) (pc' := 165) rfl (hb hby at_156) rfl (flt hc24).2.2.2 (by decide) (by decide) ?_
      exact k
    exact bt0_165 hw hC X0 e0 O0 N0 (by omega) (by omega) hf
def b0_141 (D : Hp) (i6 : Int32) (i7 : Int32) (i8 : Int32) (i9 : Int32) (i10 : Int32) (ob11 : Nat) (i12 : Int32) (i13 : Int32) (i14 : Int32) (i15 : Int32) (ob16 : Nat) : Option (Int32 × Hp) :=
  if (2 : Int32) < i7 then ((wV D ob16 0 (2 : Int32) (.int i14)).bind fun D23 =>
  b0_153 D23 i6 i7 i8 i9 i10 ob11 i12 i13 i14 i15 ob16) else (b0_153 D i6 i7 i8 i9 i10 ob11 i12 i13 i14 i15 ob16)
set_option maxRecDepth 65536 in
set_option maxHeartbeats 40000000 in
theorem bt0_141 {p : Program} {l : Launch} {e : Env} {s : State} {m : MethodId} {args : Array Value} {below : List Frame} {meth : Method} {c : Code} {Z : State} {a0 : Array Value} {n0 : Nat} {D' : Hp} {r : Int32} {T0 : State} {locs : List Loc} {cells slots : Nat} {h0 : Heap} {D : Hp} {i0 : Int32} {i1 : Int32} {i2 : Int32} {i3 : Int32} {i4 : Int32} {i5 : Int32} {i6 : Int32} {i7 : Int32} {i8 : Int32} {i9 : Int32} {i10 : Int32} {ob11 : Nat} {i12 : Int32} {i13 : Int32} {i14 : Int32} {i15 : Int32} {ob16 : Nat} (hw : ∀ d ∈ tables_1, d.before a0 Z = true) (hC : Cx p s m meth c Z code maxLocals ret "com/example/planar_drawing_kit/planardrawingkit/decomposition/CountingStartsPinLaw" "law") (X0 : Stand p l e room_1 s m args below meth c T0 locs cells slots) (e0 : T0.heap = h0) (O0 : Ow Kt1 Z h0 n0 D) (N0 : Fr n0 locs) (hcc : cells ≤ 2) (hss : slots ≤ 11) (hf : b0_141 D i6 i7 i8 i9 i10 ob11 i12 i13 i14 i15 ob16 = some (r, D')) : Gl p e below s 16 128 (Qw Kt1 Z n0 (some (.int r)) D') (T0.setTop (mkF m 141 #[.val (.int i0), .val (.int i1), .val (.int i2), .val (.int i3), .val (.int i4), .val (.int i5), .val (.int i6), .val (.int i7), .val (.int i8), .val (.int i9), .val (.int i10), .val (.ref (n0 + ob11)), .val (.int i12), .val (.int i13), .val (.int i14), .val (.int i15), .val (.ref (n0 + ob16)), .unset, .unset, .unset, .unset, .unset, .unset] [])) := by
  obtain ⟨hx, hZ, hby, hml, hown, hnm, hret, hlk⟩ := id hC
  have hml : c.maxLocals = 23 := hml
  rw [b0_141] at hf
  refine Gl.on (B := T0.setTop (mkF m 144 #[.val (.int i0), .val (.int i1), .val (.int i2), .val (.int i3), .val (.int i4), .val (.int i5), .val (.int i6), .val (.int i7), .val (.int i8), .val (.int i9), .val (.int i10), .val (.ref (n0 + ob11)), .val (.int i12), .val (.int i13), .val (.int i14), .val (.int i15), .val (.ref (n0 + ob16)), .unset, .unset, .unset, .unset, .unset, .unset] [(.int (2 : Int32)), (.int i7)])) (fun t k => ?_) ?_
  · show Steps p.tables e below (T0.setTop (mkF m 141 #[.val (.int i0), .val (.int i1), .val (.int i2), .val (.int i3), .val (.int i4), .val (.int i5), .val (.int i6), .val (.int i7), .val (.int i8), .val (.int i9), .val (.int i10), .val (.ref (n0 + ob11)), .val (.int i12), .val (.int i13), .val (.int i14), .val (.int i15), .val (.ref (n0 + ob16)), .unset, .unset, .unset, .unset, .unset, .unset] [])) _
    refine XS.iload X0.here hx rfl (hb hby at_141) rfl ?_
    show Steps p.tables e below (T0.setTop (mkF m 143 #[.val (.int i0), .val (.int i1), .val (.int i2), .val (.int i3), .val (.int i4), .val (.int i5), .val (.int i6), .val (.int i7), .val (.int i8), .val (.int i9), .val (.int i10), .val (.ref (n0 + ob11)), .val (.int i12), .val (.int i13), .val (.int i14), .val (.int i15), .val (.ref (n0 + ob16)), .unset, .unset, .unset, .unset, .unset, .unset] [(.int i7)])) _
    refine XS.iconst X0.here hx rfl (hb hby at_143) ?_
    exact k
  by_cases hc22 : (2 : Int32) < i7
  · rw [if_pos hc22] at hf
    obtain ⟨D23, hq23, hf⟩ := own_bind hf
    obtain ⟨T23, h23, L23, X23, e23, O23, N23, st23⟩ := stIW X0 hx hZ e0 O0 N0 hq23 rfl (g := (mkF m 152 #[.val (.int i0), .val (.int i1), .val (.int i2), .val (.int i3), .val (.int i4), .val (.int i5), .val (.int i6), .val (.int i7), .val (.int i8), .val (.int i9), .val (.int i10), .val (.ref (n0 + ob11)), .val (.int i12), .val (.int i13), .val (.int i14), .val (.int i15), .val (.ref (n0 + ob16)), .unset, .unset, .unset, .unset, .unset, .unset] [(.int i14), (.int (2 : Int32)), (.ref (n0 + ob16))])) rfl rfl (hb hby at_152)
    refine Gl.on (B := T23.setTop (mkF m 153 #[.val (.int i0), .val (.int i1), .val (.int i2), .val (.int i3), .val (.int i4), .val (.int i5), .val (.int i6), .val (.int i7), .val (.int i8), .val (.int i9), .val (.int i10), .val (.ref (n0 + ob11)), .val (.int i12), .val (.int i13), .val (.int i14), .val (.int i15), .val (.ref (n0 + ob16)), .unset, .unset, .unset, .unset, .unset, .unset] [])) (fun t k => ?_) ?_
    · show Steps p.tables e below (T0.setTop (mkF m 144 #[.val (.int i0), .val (.int i1), .val (.int i2), .val (.int i3), .val (.int i4), .val (.int i5), .val (.int i6), .val (.int i7), .val (.int i8), .val (.int i9), .val (.int i10), .val (.ref (n0 + ob11)), .val (.int i12), .val (.int i13), .val (.int i14), .val (.int i15), .val (.ref (n0 + ob16)), .unset, .unset, .unset, .unset, .unset, .unset] [(.int (2 : Int32)), (.int i7)])) _
      refine XS.icmpNo X0.here hx rfl (hb hby at_144) rfl (tlt hc22).2.2.2 ?_
      show Steps p.tables e below (T0.setTop (mkF m 147 #[.val (.int i0), .val (.int i1), .val (.int i2), .val (.int i3), .val (.int i4), .val (.int i5), .val (.int i6), .val (.int i7), .val (.int i8), .val (.int i9), .val (.int i10), .val (.ref (n0 + ob11)), .val (.int i12), .val (.int i13), .val (.int i14), .val (.int i15), .val (.ref (n0 + ob16)), .unset, .unset, .unset, .unset, .unset, .unset] [])) _
      refine XS.aload X0.here hx rfl (hb hby at_147) rfl rfl ?_
      show Steps p.tables e below (T0.setTop (mkF m 149 #[.val (.int i0), .val (.int i1), .val (.int i2), .val (.int i3), .val (.int i4), .val (.int i5), .val (.int i6), .val (.int i7), .val (.int i8), .val (.int i9), .val (.int i10), .val (.ref (n0 + ob11)), .val (.int i12), .val (.int i13), .val (.int i14), .val (.int i15), .val (.ref (n0 + ob16)), .unset, .unset, .unset, .unset, .unset, .unset] [(.ref (n0 + ob16))])) _
      refine XS.iconst X0.here hx rfl (hb hby at_149) ?_
      show Steps p.tables e below (T0.setTop (mkF m 150 #[.val (.int i0), .val (.int i1), .val (.int i2), .val (.int i3), .val (.int i4), .val (.int i5), .val (.int i6), .val (.int i7), .val (.int i8), .val (.int i9), .val (.int i10), .val (.ref (n0 + ob11)), .val (.int i12), .val (.int i13), .val (.int i14), .val (.int i15), .val (.ref (n0 + ob16)), .unset, .unset, .unset, .unset, .unset, .unset] [(.int (2 : Int32)), (.ref (n0 + ob16))])) _
      refine XS.iload X0.here hx rfl (hb hby at_150) rfl ?_
      show Steps p.tables e below (T0.setTop (mkF m 152 #[.val (.int i0), .val (.int i1), .val (.int i2), .val (.int i3), .val (.int i4), .val (.int i5), .val (.int i6), .val (.int i7), .val (.int i8), .val (.int i9), .val (.int i10), .val (.ref (n0 + ob11)), .val (.int i12), .val (.int i13), .val (.int i14), .val (.int i15), .val (.ref (n0 + ob16)), .unset, .unset, .unset, .unset, .unset, .unset] [(.int i14), (.int (2 : Int32)), (.ref (n0 + ob16))])) _
      refine st23 _ ?_
      exact k
    exact bt0_153 hw hC X23 e23 O23 N23 (by omega) (by omega) hf
  · rw [if_neg hc22] at hf
    refine Gl.on (B := T0.setTop (mkF m 153 #[.val (.int i0), .val (.int i1), .val (.int i2), .val (.int i3), .val (.int i4), .val (.int i5), .val (.int i6), .val (.int i7), .val (.int i8), .val (.int i9), .val (.int i10), .val (.ref (n0 + ob11)), .val (.int i12), .val (.int i13), .val (.int i14), .val (.int i15), .val (.ref (n0 + ob16)), .unset, .unset, .unset, .unset, .unset, .unset] [])) (fun t k => ?_) ?_
    · show Steps p.tables e below (T0.setTop (mkF m 144 #[.val (.int i0), .val (.int i1), .val (.int i2), .val (.int i3), .val (.int i4), .val (.int i5), .val (.int i6), .val (.int i7), .val (.int i8), .val (.int i9), .val (.int i10), .val (.ref (n0 + ob11)), .val (.int i12), .val (.int i13), .val (.int i14), .val (.int i15), .val (.ref (n0 + ob16)), .unset, .unset, .unset, .unset, .unset, .unset] [(.int (2 : Int32)), (.int i7)])) _
      refine XS.icmpYes X0.here hx rfl (pc0 := 144) (pc' := 153) rfl (hb hby at_144) rfl (flt hc22).2.2.2 (by decide) (by decide) ?_
      exact k
    exact bt0_153 hw hC X0 e0 O0 N0 (by omega) (by omega) hf
def b0_129 (D : Hp) (i6 : Int32) (i7 : Int32) (i8 : Int32) (i9 : Int32) (i10 : Int32) (ob11 : Nat) (i12 : Int32) (i13 : Int32) (i14 : Int32) (i15 : Int32) (ob16 : Nat) : Option (Int32 × Hp) :=
  if (1 : Int32) < i7 then ((wV D ob16 0 (1 : Int32) (.int i13)).bind fun D21 =>
  b0_141 D21 i6 i7 i8 i9 i10 ob11 i12 i13 i14 i15 ob16) else (b0_141 D i6 i7 i8 i9 i10 ob11 i12 i13 i14 i15 ob16)
set_option maxRecDepth 65536 in
set_option maxHeartbeats 40000000 in
theorem bt0_129 {p : Program} {l : Launch} {e : Env} {s : State} {m : MethodId} {args : Array Value} {below : List Frame} {meth : Method} {c : Code} {Z : State} {a0 : Array Value} {n0 : Nat} {D' : Hp} {r : Int32} {T0 : State} {locs : List Loc} {cells slots : Nat} {h0 : Heap} {D : Hp} {i0 : Int32} {i1 : Int32} {i2 : Int32} {i3 : Int32} {i4 : Int32} {i5 : Int32} {i6 : Int32} {i7 : Int32} {i8 : Int32} {i9 : Int32} {i10 : Int32} {ob11 : Nat} {i12 : Int32} {i13 : Int32} {i14 : Int32} {i15 : Int32} {ob16 : Nat} (hw : ∀ d ∈ tables_1, d.before a0 Z = true) (hC : Cx p s m meth c Z code maxLocals ret "com/example/planar_drawing_kit/planardrawingkit/decomposition/CountingStartsPinLaw" "law") (X0 : Stand p l e room_1 s m args below meth c T0 locs cells slots) (e0 : T0.heap = h0) (O0 : Ow Kt1 Z h0 n0 D) (N0 : Fr n0 locs) (hcc : cells ≤ 2) (hss : slots ≤ 11) (hf : b0_129 D i6 i7 i8 i9 i10 ob11 i12 i13 i14 i15 ob16 = some (r, D')) : Gl p e below s 16 128 (Qw Kt1 Z n0 (some (.int r)) D') (T0.setTop (mkF m 129 #[.val (.int i0), .val (.int i1), .val (.int i2), .val (.int i3), .val (.int i4), .val (.int i5), .val (.int i6), .val (.int i7), .val (.int i8), .val (.int i9), .val (.int i10), .val (.ref (n0 + ob11)), .val (.int i12), .val (.int i13), .val (.int i14), .val (.int i15), .val (.ref (n0 + ob16)), .unset, .unset, .unset, .unset, .unset, .unset] [])) := by
  obtain ⟨hx, hZ, hby, hml, hown, hnm, hret, hlk⟩ := id hC
  have hml : c.maxLocals = 23 := hml
  rw [b0_129] at hf
  refine Gl.on (B := T0.setTop (mkF m 132 #[.val (.int i0), .val (.int i1), .val (.int i2), .val (.int i3), .val (.int i4), .val (.int i5), .val (.int i6), .val (.int i7), .val (.int i8), .val (.int i9), .val (.int i10), .val (.ref (n0 + ob11)), .val (.int i12), .val (.int i13), .val (.int i14), .val (.int i15), .val (.ref (n0 + ob16)), .unset, .unset, .unset, .unset, .unset, .unset] [(.int (1 : Int32)), (.int i7)])) (fun t k => ?_) ?_
  · show Steps p.tables e below (T0.setTop (mkF m 129 #[.val (.int i0), .val (.int i1), .val (.int i2), .val (.int i3), .val (.int i4), .val (.int i5), .val (.int i6), .val (.int i7), .val (.int i8), .val (.int i9), .val (.int i10), .val (.ref (n0 + ob11)), .val (.int i12), .val (.int i13), .val (.int i14), .val (.int i15), .val (.ref (n0 + ob16)), .unset, .unset, .unset, .unset, .unset, .unset] [])) _
    refine XS.iload X0.here hx rfl (hb hby at_129) rfl ?_
    show Steps p.tables e below (T0.setTop (mkF m 131 #[.val (.int i0), .val (.int i1), .val (.int i2), .val (.int i3), .val (.int i4), .val (.int i5), .val (.int i6), .val (.int i7), .val (.int i8), .val (.int i9), .val (.int i10), .val (.ref (n0 + ob11)), .val (.int i12), .val (.int i13), .val (.int i14), .val (.int i15), .val (.ref (n0 + ob16)), .unset, .unset, .unset, .unset, .unset, .unset] [(.int i7)])) _
    refine XS.iconst X0.here hx rfl (hb hby at_131) ?_
    exact k
  by_cases hc20 : (1 : Int32) < i7
  · rw [if_pos hc20] at hf
    obtain ⟨D21, hq21, hf⟩ := own_bind hf
    obtain ⟨T21, h21, L21, X21, e21, O21, N21, st21⟩ := stIW X0 hx hZ e0 O0 N0 hq21 rfl (g := (mkF m 140 #[.val (.int i0), .val (.int i1), .val (.int i2), .val (.int i3), .val (.int i4), .val (.int i5), .val (.int i6), .val (.int i7), .val (.int i8), .val (.int i9), .val (.int i10), .val (.ref (n0 + ob11)), .val (.int i12), .val (.int i13), .val (.int i14), .val (.int i15), .val (.ref (n0 + ob16)), .unset, .unset, .unset, .unset, .unset, .unset] [(.int i13), (.int (1 : Int32)), (.ref (n0 + ob16))])) rfl rfl (hb hby at_140)
    refine Gl.on (B := T21.setTop (mkF m 141 #[.val (.int i0), .val (.int i1), .val (.int i2), .val (.int i3), .val (.int i4), .val (.int i5), .val (.int i6), .val (.int i7), .val (.int i8), .val (.int i9), .val (.int i10), .val (.ref (n0 + ob11)), .val (.int i12), .val (.int i13), .val (.int i14), .val (.int i15), .val (.ref (n0 + ob16)), .unset, .unset, .unset, .unset, .unset, .unset] [])) (fun t k => ?_) ?_
    · show Steps p.tables e below (T0.setTop (mkF m 132 #[.val (.int i0), .val (.int i1), .val (.int i2), .val (.int i3), .val (.int i4), .val (.int i5), .val (.int i6), .val (.int i7), .val (.int i8), .val (.int i9), .val (.int i10), .val (.ref (n0 + ob11)), .val (.int i12), .val (.int i13), .val (.int i14), .val (.int i15), .val (.ref (n0 + ob16)), .unset, .unset, .unset, .unset, .unset, .unset] [(.int (1 : Int32)), (.int i7)])) _
      refine XS.icmpNo X0.here hx rfl (hb hby at_132) rfl (tlt hc20).2.2.2 ?_
      show Steps p.tables e below (T0.setTop (mkF m 135 #[.val (.int i0), .val (.int i1), .val (.int i2), .val (.int i3), .val (.int i4), .val (.int i5), .val (.int i6), .val (.int i7), .val (.int i8), .val (.int i9), .val (.int i10), .val (.ref (n0 + ob11)), .val (.int i12), .val (.int i13), .val (.int i14), .val (.int i15), .val (.ref (n0 + ob16)), .unset, .unset, .unset, .unset, .unset, .unset] [])) _
      refine XS.aload X0.here hx rfl (hb hby at_135) rfl rfl ?_
      show Steps p.tables e below (T0.setTop (mkF m 137 #[.val (.int i0), .val (.int i1), .val (.int i2), .val (.int i3), .val (.int i4), .val (.int i5), .val (.int i6), .val (.int i7), .val (.int i8), .val (.int i9), .val (.int i10), .val (.ref (n0 + ob11)), .val (.int i12), .val (.int i13), .val (.int i14), .val (.int i15), .val (.ref (n0 + ob16)), .unset, .unset, .unset, .unset, .unset, .unset] [(.ref (n0 + ob16))])) _
      refine XS.iconst X0.here hx rfl (hb hby at_137) ?_
      show Steps p.tables e below (T0.setTop (mkF m 138 #[.val (.int i0), .val (.int i1), .val (.int i2), .val (.int i3), .val (.int i4), .val (.int i5), .val (.int i6), .val (.int i7), .val (.int i8), .val (.int i9), .val (.int i10), .val (.ref (n0 + ob11)), .val (.int i12), .val (.int i13), .val (.int i14), .val (.int i15), .val (.ref (n0 + ob16)), .unset, .unset, .unset, .unset, .unset, .unset] [(.int (1 : Int32)), (.ref (n0 + ob16))])) _
      refine XS.iload X0.here hx rfl (hb hby at_138) rfl ?_
      show Steps p.tables e below (T0.setTop (mkF m 140 #[.val (.int i0), .val (.int i1), .val (.int i2), .val (.int i3), .val (.int i4), .val (.int i5), .val (.int i6), .val (.int i7), .val (.int i8), .val (.int i9), .val (.int i10), .val (.ref (n0 + ob11)), .val (.int i12), .val (.int i13), .val (.int i14), .val (.int i15), .val (.ref (n0 + ob16)), .unset, .unset, .unset, .unset, .unset, .unset] [(.int i13), (.int (1 : Int32)), (.ref (n0 + ob16))])) _
      refine st21 _ ?_
      exact k
    exact bt0_141 hw hC X21 e21 O21 N21 (by omega) (by omega) hf
  · rw [if_neg hc20] at hf
    refine Gl.on (B := T0.setTop (mkF m 141 #[.val (.int i0), .val (.int i1), .val (.int i2), .val (.int i3), .val (.int i4), .val (.int i5), .val (.int i6), .val (.int i7), .val (.int i8), .val (.int i9), .val (.int i10), .val (.ref (n0 + ob11)), .val (.int i12), .val (.int i13), .val (.int i14), .val (.int i15), .val (.ref (n0 + ob16)), .unset, .unset, .unset, .unset, .unset, .unset] [])) (fun t k => ?_) ?_
    · show Steps p.tables e below (T0.setTop (mkF m 132 #[.val (.int i0), .val (.int i1), .val (.int i2), .val (.int i3), .val (.int i4), .val (.int i5), .val (.int i6), .val (.int i7), .val (.int i8), .val (.int i9), .val (.int i10), .val (.ref (n0 + ob11)), .val (.int i12), .val (.int i13), .val (.int i14), .val (.int i15), .val (.ref (n0 + ob16)), .unset, .unset, .unset, .unset, .unset, .unset] [(.int (1 : Int32)), (.int i7)])) _
      refine XS.icmpYes X0.here hx rfl (pc0 := 132) (pc' := 141) rfl (hb hby at_132) rfl (flt hc20).2.2.2 (by decide) (by decide) ?_
      exact k
    exact bt0_141 hw hC X0 e0 O0 N0 (by omega) (by omega) hf
def f0 (D : Hp) (i0 : Int32) (i1 : Int32) (i2 : Int32) (i3 : Int32) (i4 : Int32) (i5 : Int32) : Option (Int32 × Hp) :=
  own_let ((1 : Int32) + (i0 &&& (3 : Int32))) fun v1 =>
  own_let ((i1 &&& (2147483647 : Int32)) % (5 : Int32)) fun v2 =>
  if v1 = (0 : Int32) then none else
  own_let ((i3 &&& (2147483647 : Int32)) % v1) fun v4 =>
  if v1 = (0 : Int32) then none else
  own_let ((i4 &&& (2147483647 : Int32)) % v1) fun v6 =>
  if v1 = (0 : Int32) then none else
  own_let ((i5 &&& (2147483647 : Int32)) % v1) fun v8 =>
  own_let (D.length) fun a9 => (nA D 0 (3 : Int32) 3 (.int (0 : Int32))).bind fun D9 =>
  (wV D9 a9 0 (0 : Int32) (.int v4)).bind fun D10 =>
  (wV D10 a9 0 (1 : Int32) (.int v6)).bind fun D11 =>
  (wV D11 a9 0 (2 : Int32) (.int v8)).bind fun D12 =>
  own_let ((i2 &&& (255 : Int32)) % (3 : Int32)) fun v13 =>
  own_let ((((i2.toUInt32 >>> ((8 : Int32) &&& 31).toUInt32).toInt32) &&& (255 : Int32)) % (3 : Int32)) fun v14 =>
  own_let ((((i2.toUInt32 >>> ((16 : Int32) &&& 31).toUInt32).toInt32) &&& (255 : Int32)) % (3 : Int32)) fun v15 =>
  own_let ((((i2.toUInt32 >>> ((24 : Int32) &&& 31).toUInt32).toInt32) &&& (255 : Int32)) % (3 : Int32)) fun v16 =>
  own_let (D12.length) fun a17 => (nA D12 0 v2 8 (.int (0 : Int32))).bind fun D17 =>
  if (0 : Int32) < v2 then ((wV D17 a17 0 (0 : Int32) (.int v13)).bind fun D19 =>
  b0_129 D19 v1 v2 v4 v6 v8 a9 v13 v14 v15 v16 a17) else (b0_129 D17 v1 v2 v4 v6 v8 a9 v13 v14 v15 v16 a17)
theorem ef_0 (m : MethodId) (i0 : Int32) (i1 : Int32) (i2 : Int32) (i3 : Int32) (i4 : Int32) (i5 : Int32) : entryFrame m #[(.int i0), (.int i1), (.int i2), (.int i3), (.int i4), (.int i5)] maxLocals = mkF m 0 #[.val (.int i0), .val (.int i1), .val (.int i2), .val (.int i3), .val (.int i4), .val (.int i5), .unset, .unset, .unset, .unset, .unset, .unset, .unset, .unset, .unset, .unset, .unset, .unset, .unset, .unset, .unset, .unset, .unset] [] := by first | (simp [entryFrame, mkF, argsToLocals, Value.category, maxLocals]; done) | rfl
set_option maxRecDepth 65536 in
set_option maxHeartbeats 40000000 in
theorem ct0 {l : Launch} {Z : State} {a0 : Array Value} (hw : ∀ d ∈ tables_1, d.before a0 Z = true) {n0 : Nat} {D D' : Hp} {i0 : Int32} {i1 : Int32} {i2 : Int32} {i3 : Int32} {i4 : Int32} {i5 : Int32} {r : Int32} (hf : f0 D i0 i1 i2 i3 i4 i5 = some (r, D')) :
    Ct Kt1 l Z x (.code x code maxLocals ret) room_1 n0 D #[(.int i0), (.int i1), (.int i2), (.int i3), (.int i4), (.int i5)] (some (.int r)) D' := by
  refine Ct.of (plainFor_of_name pn_0) ?_
  intro p e s m below meth c T0 h0 hC X0 e0 O0
  obtain ⟨hx, hZ, hby, hml, hown, hnm, hret, hlk⟩ := id hC
  have hml : c.maxLocals = 23 := hml
  have hown : s.vm.findClass "com/example/planar_drawing_kit/planardrawingkit/decomposition/CountingStartsPinLaw" = some m.cls := hown
  have hnm : meth.name = "law" := hnm
  have N0 := Fr.nil n0
  refine Gl.on (fun t k => castTop (ef_0 m i0 i1 i2 i3 i4 i5) k) ?_
  rw [f0] at hf
  obtain ⟨v1, hv1, hf⟩ := own_letE hf
  obtain ⟨v2, hv2, hf⟩ := own_letE hf
  refine Gl.on (B := T0.setTop (mkF m 21 #[.val (.int i0), .val (.int i1), .val (.int i2), .val (.int i3), .val (.int i4), .val (.int i5), .val (.int v1), .val (.int v2), .unset, .unset, .unset, .unset, .unset, .unset, .unset, .unset, .unset, .unset, .unset, .unset, .unset, .unset, .unset] [(.int v1), (.int (i3 &&& (2147483647 : Int32)))])) (fun t k => ?_) ?_
  · show Steps p.tables e below (T0.setTop (mkF m 0 #[.val (.int i0), .val (.int i1), .val (.int i2), .val (.int i3), .val (.int i4), .val (.int i5), .unset, .unset, .unset, .unset, .unset, .unset, .unset, .unset, .unset, .unset, .unset, .unset, .unset, .unset, .unset, .unset, .unset] [])) _
    refine XS.iconst X0.here hx rfl (hb hby at_0) ?_
    show Steps p.tables e below (T0.setTop (mkF m 1 #[.val (.int i0), .val (.int i1), .val (.int i2), .val (.int i3), .val (.int i4), .val (.int i5), .unset, .unset, .unset, .unset, .unset, .unset, .unset, .unset, .unset, .unset, .unset, .unset, .unset, .unset, .unset, .unset, .unset] [(.int (1 : Int32))])) _
    refine XS.iloadN X0.here hx rfl (hb hby at_1) rfl ?_
    show Steps p.tables e below (T0.setTop (mkF m 2 #[.val (.int i0), .val (.int i1), .val (.int i2), .val (.int i3), .val (.int i4), .val (.int i5), .unset, .unset, .unset, .unset, .unset, .unset, .unset, .unset, .unset, .unset, .unset, .unset, .unset, .unset, .unset, .unset, .unset] [(.int i0), (.int (1 : Int32))])) _
    refine XS.iconst X0.here hx rfl (hb hby at_2) ?_
    show Steps p.tables e below (T0.setTop (mkF m 3 #[.val (.int i0), .val (.int i1), .val (.int i2), .val (.int i3), .val (.int i4), .val (.int i5), .unset, .unset, .unset, .unset, .unset, .unset, .unset, .unset, .unset, .unset, .unset, .unset, .unset, .unset, .unset, .unset, .unset] [(.int (3 : Int32)), (.int i0), (.int (1 : Int32))])) _
    refine XS.iand X0.here hx rfl (hb hby at_3) rfl ?_
    show Steps p.tables e below (T0.setTop (mkF m 4 #[.val (.int i0), .val (.int i1), .val (.int i2), .val (.int i3), .val (.int i4), .val (.int i5), .unset, .unset, .unset, .unset, .unset, .unset, .unset, .unset, .unset, .unset, .unset, .unset, .unset, .unset, .unset, .unset, .unset] [(.int (i0 &&& (3 : Int32))), (.int (1 : Int32))])) _
    refine XS.iadd X0.here hx rfl (hb hby at_4) rfl ?_
    show Steps p.tables e below (T0.setTop (mkF m 5 #[.val (.int i0), .val (.int i1), .val (.int i2), .val (.int i3), .val (.int i4), .val (.int i5), .unset, .unset, .unset, .unset, .unset, .unset, .unset, .unset, .unset, .unset, .unset, .unset, .unset, .unset, .unset, .unset, .unset] [(.int ((1 : Int32) + (i0 &&& (3 : Int32))))])) _
    refine own_to (congrArg (fun z => T0.setTop (mkF m 5 #[.val (.int i0), .val (.int i1), .val (.int i2), .val (.int i3), .val (.int i4), .val (.int i5), .unset, .unset, .unset, .unset, .unset, .unset, .unset, .unset, .unset, .unset, .unset, .unset, .unset, .unset, .unset, .unset, .unset] [(.int z)])) hv1) ?_
    show Steps p.tables e below (T0.setTop (mkF m 5 #[.val (.int i0), .val (.int i1), .val (.int i2), .val (.int i3), .val (.int i4), .val (.int i5), .unset, .unset, .unset, .unset, .unset, .unset, .unset, .unset, .unset, .unset, .unset, .unset, .unset, .unset, .unset, .unset, .unset] [(.int v1)])) _
    refine XS.istore X0.here hx rfl (hb hby at_5) rfl (l' := #[.val (.int i0), .val (.int i1), .val (.int i2), .val (.int i3), .val (.int i4), .val (.int i5), .val (.int v1), .unset, .unset, .unset, .unset, .unset, .unset, .unset, .unset, .unset, .unset, .unset, .unset, .unset, .unset, .unset, .unset]) rfl ?_
    show Steps p.tables e below (T0.setTop (mkF m 7 #[.val (.int i0), .val (.int i1), .val (.int i2), .val (.int i3), .val (.int i4), .val (.int i5), .val (.int v1), .unset, .unset, .unset, .unset, .unset, .unset, .unset, .unset, .unset, .unset, .unset, .unset, .unset, .unset, .unset, .unset] [])) _
    refine XS.iloadN X0.here hx rfl (hb hby at_7) rfl ?_
    show Steps p.tables e below (T0.setTop (mkF m 8 #[.val (.int i0), .val (.int i1), .val (.int i2), .val (.int i3), .val (.int i4), .val (.int i5), .val (.int v1), .unset, .unset, .unset, .unset, .unset, .unset, .unset, .unset, .unset, .unset, .unset, .unset, .unset, .unset, .unset, .unset] [(.int i1)])) _
    refine X0.ldcInt hx hown (mvT hZ (hw _ (List.mem_of_getElem? (i := 0) rfl))) (g := (mkF m 8 #[.val (.int i0), .val (.int i1), .val (.int i2), .val (.int i3), .val (.int i4), .val (.int i5), .val (.int v1), .unset, .unset, .unset, .unset, .unset, .unset, .unset, .unset, .unset, .unset, .unset, .unset, .unset, .unset, .unset, .unset] [(.int i1)])) rfl (hb hby at_8) _ ?_
    show Steps p.tables e below (T0.setTop (mkF m 10 #[.val (.int i0), .val (.int i1), .val (.int i2), .val (.int i3), .val (.int i4), .val (.int i5), .val (.int v1), .unset, .unset, .unset, .unset, .unset, .unset, .unset, .unset, .unset, .unset, .unset, .unset, .unset, .unset, .unset, .unset] [(.int (2147483647 : Int32)), (.int i1)])) _
    refine XS.iand X0.here hx rfl (hb hby at_10) rfl ?_
    show Steps p.tables e below (T0.setTop (mkF m 11 #[.val (.int i0), .val (.int i1), .val (.int i2), .val (.int i3), .val (.int i4), .val (.int i5), .val (.int v1), .unset, .unset, .unset, .unset, .unset, .unset, .unset, .unset, .unset, .unset, .unset, .unset, .unset, .unset, .unset, .unset] [(.int (i1 &&& (2147483647 : Int32)))])) _
    refine XS.iconst X0.here hx rfl (hb hby at_11) ?_
    show Steps p.tables e below (T0.setTop (mkF m 12 #[.val (.int i0), .val (.int i1), .val (.int i2), .val (.int i3), .val (.int i4), .val (.int i5), .val (.int v1), .unset, .unset, .unset, .unset, .unset, .unset, .unset, .unset, .unset, .unset, .unset, .unset, .unset, .unset, .unset, .unset] [(.int (5 : Int32)), (.int (i1 &&& (2147483647 : Int32)))])) _
    refine iremM X0 hx rfl (hb hby at_12) rfl (by decide) ?_
    show Steps p.tables e below (T0.setTop (mkF m 13 #[.val (.int i0), .val (.int i1), .val (.int i2), .val (.int i3), .val (.int i4), .val (.int i5), .val (.int v1), .unset, .unset, .unset, .unset, .unset, .unset, .unset, .unset, .unset, .unset, .unset, .unset, .unset, .unset, .unset, .unset] [(.int ((i1 &&& (2147483647 : Int32)) % (5 : Int32)))])) _
    refine own_to (congrArg (fun z => T0.setTop (mkF m 13 #[.val (.int i0), .val (.int i1), .val (.int i2), .val (.int i3), .val (.int i4), .val (.int i5), .val (.int v1), .unset, .unset, .unset, .unset, .unset, .unset, .unset, .unset, .unset, .unset, .unset, .unset, .unset, .unset, .unset, .unset] [(.int z)])) hv2) ?_
    show Steps p.tables e below (T0.setTop (mkF m 13 #[.val (.int i0), .val (.int i1), .val (.int i2), .val (.int i3), .val (.int i4), .val (.int i5), .val (.int v1), .unset, .unset, .unset, .unset, .unset, .unset, .unset, .unset, .unset, .unset, .unset, .unset, .unset, .unset, .unset, .unset] [(.int v2)])) _
    refine XS.istore X0.here hx rfl (hb hby at_13) rfl (l' := #[.val (.int i0), .val (.int i1), .val (.int i2), .val (.int i3), .val (.int i4), .val (.int i5), .val (.int v1), .val (.int v2), .unset, .unset, .unset, .unset, .unset, .unset, .unset, .unset, .unset, .unset, .unset, .unset, .unset, .unset, .unset]) rfl ?_
    show Steps p.tables e below (T0.setTop (mkF m 15 #[.val (.int i0), .val (.int i1), .val (.int i2), .val (.int i3), .val (.int i4), .val (.int i5), .val (.int v1), .val (.int v2), .unset, .unset, .unset, .unset, .unset, .unset, .unset, .unset, .unset, .unset, .unset, .unset, .unset, .unset, .unset] [])) _
    refine XS.iloadN X0.here hx rfl (hb hby at_15) rfl ?_
    show Steps p.tables e below (T0.setTop (mkF m 16 #[.val (.int i0), .val (.int i1), .val (.int i2), .val (.int i3), .val (.int i4), .val (.int i5), .val (.int v1), .val (.int v2), .unset, .unset, .unset, .unset, .unset, .unset, .unset, .unset, .unset, .unset, .unset, .unset, .unset, .unset, .unset] [(.int i3)])) _
    refine X0.ldcInt hx hown (mvT hZ (hw _ (List.mem_of_getElem? (i := 0) rfl))) (g := (mkF m 16 #[.val (.int i0), .val (.int i1), .val (.int i2), .val (.int i3), .val (.int i4), .val (.int i5), .val (.int v1), .val (.int v2), .unset, .unset, .unset, .unset, .unset, .unset, .unset, .unset, .unset, .unset, .unset, .unset, .unset, .unset, .unset] [(.int i3)])) rfl (hb hby at_16) _ ?_
    show Steps p.tables e below (T0.setTop (mkF m 18 #[.val (.int i0), .val (.int i1), .val (.int i2), .val (.int i3), .val (.int i4), .val (.int i5), .val (.int v1), .val (.int v2), .unset, .unset, .unset, .unset, .unset, .unset, .unset, .unset, .unset, .unset, .unset, .unset, .unset, .unset, .unset] [(.int (2147483647 : Int32)), (.int i3)])) _
    refine XS.iand X0.here hx rfl (hb hby at_18) rfl ?_
    show Steps p.tables e below (T0.setTop (mkF m 19 #[.val (.int i0), .val (.int i1), .val (.int i2), .val (.int i3), .val (.int i4), .val (.int i5), .val (.int v1), .val (.int v2), .unset, .unset, .unset, .unset, .unset, .unset, .unset, .unset, .unset, .unset, .unset, .unset, .unset, .unset, .unset] [(.int (i3 &&& (2147483647 : Int32)))])) _
    refine XS.iload X0.here hx rfl (hb hby at_19) rfl ?_
    exact k
  by_cases hz3 : v1 = (0 : Int32)
  · rw [if_pos hz3] at hf; cases hf
  rw [if_neg hz3] at hf
  obtain ⟨v4, hv4, hf⟩ := own_letE hf
  refine Gl.on (B := T0.setTop (mkF m 31 #[.val (.int i0), .val (.int i1), .val (.int i2), .val (.int i3), .val (.int i4), .val (.int i5), .val (.int v1), .val (.int v2), .val (.int v4), .unset, .unset, .unset, .unset, .unset, .unset, .unset, .unset, .unset, .unset, .unset, .unset, .unset, .unset] [(.int v1), (.int (i4 &&& (2147483647 : Int32)))])) (fun t k => ?_) ?_
  · show Steps p.tables e below (T0.setTop (mkF m 21 #[.val (.int i0), .val (.int i1), .val (.int i2), .val (.int i3), .val (.int i4), .val (.int i5), .val (.int v1), .val (.int v2), .unset, .unset, .unset, .unset, .unset, .unset, .unset, .unset, .unset, .unset, .unset, .unset, .unset, .unset, .unset] [(.int v1), (.int (i3 &&& (2147483647 : Int32)))])) _
    refine iremM X0 hx rfl (hb hby at_21) rfl hz3 ?_
    show Steps p.tables e below (T0.setTop (mkF m 22 #[.val (.int i0), .val (.int i1), .val (.int i2), .val (.int i3), .val (.int i4), .val (.int i5), .val (.int v1), .val (.int v2), .unset, .unset, .unset, .unset, .unset, .unset, .unset, .unset, .unset, .unset, .unset, .unset, .unset, .unset, .unset] [(.int ((i3 &&& (2147483647 : Int32)) % v1))])) _
    refine own_to (congrArg (fun z => T0.setTop (mkF m 22 #[.val (.int i0), .val (.int i1), .val (.int i2), .val (.int i3), .val (.int i4), .val (.int i5), .val (.int v1), .val (.int v2), .unset, .unset, .unset, .unset, .unset, .unset, .unset, .unset, .unset, .unset, .unset, .unset, .unset, .unset, .unset] [(.int z)])) hv4) ?_
    show Steps p.tables e below (T0.setTop (mkF m 22 #[.val (.int i0), .val (.int i1), .val (.int i2), .val (.int i3), .val (.int i4), .val (.int i5), .val (.int v1), .val (.int v2), .unset, .unset, .unset, .unset, .unset, .unset, .unset, .unset, .unset, .unset, .unset, .unset, .unset, .unset, .unset] [(.int v4)])) _
    refine XS.istore X0.here hx rfl (hb hby at_22) rfl (l' := #[.val (.int i0), .val (.int i1), .val (.int i2), .val (.int i3), .val (.int i4), .val (.int i5), .val (.int v1), .val (.int v2), .val (.int v4), .unset, .unset, .unset, .unset, .unset, .unset, .unset, .unset, .unset, .unset, .unset, .unset, .unset, .unset]) rfl ?_
    show Steps p.tables e below (T0.setTop (mkF m 24 #[.val (.int i0), .val (.int i1), .val (.int i2), .val (.int i3), .val (.int i4), .val (.int i5), .val (.int v1), .val (.int v2), .val (.int v4), .unset, .unset, .unset, .unset, .unset, .unset, .unset, .unset, .unset, .unset, .unset, .unset, .unset, .unset] [])) _
    refine XS.iload X0.here hx rfl (hb hby at_24) rfl ?_
    show Steps p.tables e below (T0.setTop (mkF m 26 #[.val (.int i0), .val (.int i1), .val (.int i2), .val (.int i3), .val (.int i4), .val (.int i5), .val (.int v1), .val (.int v2), .val (.int v4), .unset, .unset, .unset, .unset, .unset, .unset, .unset, .unset, .unset, .unset, .unset, .unset, .unset, .unset] [(.int i4)])) _
    refine X0.ldcInt hx hown (mvT hZ (hw _ (List.mem_of_getElem? (i := 0) rfl))) (g := (mkF m 26 #[.val (.int i0), .val (.int i1), .val (.int i2), .val (.int i3), .val (.int i4), .val (.int i5), .val (.int v1), .val (.int v2), .val (.int v4), .unset, .unset, .unset, .unset, .unset, .unset, .unset, .unset, .unset, .unset, .unset, .unset, .unset, .unset] [(.int i4)])) rfl (hb hby at_26) _ ?_
    show Steps p.tables e below (T0.setTop (mkF m 28 #[.val (.int i0), .val (.int i1), .val (.int i2), .val (.int i3), .val (.int i4), .val (.int i5), .val (.int v1), .val (.int v2), .val (.int v4), .unset, .unset, .unset, .unset, .unset, .unset, .unset, .unset, .unset, .unset, .unset, .unset, .unset, .unset] [(.int (2147483647 : Int32)), (.int i4)])) _
    refine XS.iand X0.here hx rfl (hb hby at_28) rfl ?_
    show Steps p.tables e below (T0.setTop (mkF m 29 #[.val (.int i0), .val (.int i1), .val (.int i2), .val (.int i3), .val (.int i4), .val (.int i5), .val (.int v1), .val (.int v2), .val (.int v4), .unset, .unset, .unset, .unset, .unset, .unset, .unset, .unset, .unset, .unset, .unset, .unset, .unset, .unset] [(.int (i4 &&& (2147483647 : Int32)))])) _
    refine XS.iload X0.here hx rfl (hb hby at_29) rfl ?_
    exact k
  by_cases hz5 : v1 = (0 : Int32)
  · rw [if_pos hz5] at hf; cases hf
  rw [if_neg hz5] at hf
  obtain ⟨v6, hv6, hf⟩ := own_letE hf
  refine Gl.on (B := T0.setTop (mkF m 41 #[.val (.int i0), .val (.int i1), .val (.int i2), .val (.int i3), .val (.int i4), .val (.int i5), .val (.int v1), .val (.int v2), .val (.int v4), .val (.int v6), .unset, .unset, .unset, .unset, .unset, .unset, .unset, .unset, .unset, .unset, .unset, .unset, .unset] [(.int v1), (.int (i5 &&& (2147483647 : Int32)))])) (fun t k => ?_) ?_
  · show Steps p.tables e below (T0.setTop (mkF m 31 #[.val (.int i0), .val (.int i1), .val (.int i2), .val (.int i3), .val (.int i4), .val (.int i5), .val (.int v1), .val (.int v2), .val (.int v4), .unset, .unset, .unset, .unset, .unset, .unset, .unset, .unset, .unset, .unset, .unset, .unset, .unset, .unset] [(.int v1), (.int (i4 &&& (2147483647 : Int32)))])) _
    refine iremM X0 hx rfl (hb hby at_31) rfl hz5 ?_
    show Steps p.tables e below (T0.setTop (mkF m 32 #[.val (.int i0), .val (.int i1), .val (.int i2), .val (.int i3), .val (.int i4), .val (.int i5), .val (.int v1), .val (.int v2), .val (.int v4), .unset, .unset, .unset, .unset, .unset, .unset, .unset, .unset, .unset, .unset, .unset, .unset, .unset, .unset] [(.int ((i4 &&& (2147483647 : Int32)) % v1))])) _
    refine own_to (congrArg (fun z => T0.setTop (mkF m 32 #[.val (.int i0), .val (.int i1), .val (.int i2), .val (.int i3), .val (.int i4), .val (.int i5), .val (.int v1), .val (.int v2), .val (.int v4), .unset, .unset, .unset, .unset, .unset, .unset, .unset, .unset, .unset, .unset, .unset, .unset, .unset, .unset] [(.int z)])) hv6) ?_
    show Steps p.tables e below (T0.setTop (mkF m 32 #[.val (.int i0), .val (.int i1), .val (.int i2), .val (.int i3), .val (.int i4), .val (.int i5), .val (.int v1), .val (.int v2), .val (.int v4), .unset, .unset, .unset, .unset, .unset, .unset, .unset, .unset, .unset, .unset, .unset, .unset, .unset, .unset] [(.int v6)])) _
    refine XS.istore X0.here hx rfl (hb hby at_32) rfl (l' := #[.val (.int i0), .val (.int i1), .val (.int i2), .val (.int i3), .val (.int i4), .val (.int i5), .val (.int v1), .val (.int v2), .val (.int v4), .val (.int v6), .unset, .unset, .unset, .unset, .unset, .unset, .unset, .unset, .unset, .unset, .unset, .unset, .unset]) rfl ?_
    show Steps p.tables e below (T0.setTop (mkF m 34 #[.val (.int i0), .val (.int i1), .val (.int i2), .val (.int i3), .val (.int i4), .val (.int i5), .val (.int v1), .val (.int v2), .val (.int v4), .val (.int v6), .unset, .unset, .unset, .unset, .unset, .unset, .unset, .unset, .unset, .unset, .unset, .unset, .unset] [])) _
    refine XS.iload X0.here hx rfl (hb hby at_34) rfl ?_
    show Steps p.tables e below (T0.setTop (mkF m 36 #[.val (.int i0), .val (.int i1), .val (.int i2), .val (.int i3), .val (.int i4), .val (.int i5), .val (.int v1), .val (.int v2), .val (.int v4), .val (.int v6), .unset, .unset, .unset, .unset, .unset, .unset, .unset, .unset, .unset, .unset, .unset, .unset, .unset] [(.int i5)])) _
    refine X0.ldcInt hx hown (mvT hZ (hw _ (List.mem_of_getElem? (i := 0) rfl))) (g := (mkF m 36 #[.val (.int i0), .val (.int i1), .val (.int i2), .val (.int i3), .val (.int i4), .val (.int i5), .val (.int v1), .val (.int v2), .val (.int v4), .val (.int v6), .unset, .unset, .unset, .unset, .unset, .unset, .unset, .unset, .unset, .unset, .unset, .unset, .unset] [(.int i5)])) rfl (hb hby at_36) _ ?_
    show Steps p.tables e below (T0.setTop (mkF m 38 #[.val (.int i0), .val (.int i1), .val (.int i2), .val (.int i3), .val (.int i4), .val (.int i5), .val (.int v1), .val (.int v2), .val (.int v4), .val (.int v6), .unset, .unset, .unset, .unset, .unset, .unset, .unset, .unset, .unset, .unset, .unset, .unset, .unset] [(.int (2147483647 : Int32)), (.int i5)])) _
    refine XS.iand X0.here hx rfl (hb hby at_38) rfl ?_
    show Steps p.tables e below (T0.setTop (mkF m 39 #[.val (.int i0), .val (.int i1), .val (.int i2), .val (.int i3), .val (.int i4), .val (.int i5), .val (.int v1), .val (.int v2), .val (.int v4), .val (.int v6), .unset, .unset, .unset, .unset, .unset, .unset, .unset, .unset, .unset, .unset, .unset, .unset, .unset] [(.int (i5 &&& (2147483647 : Int32)))])) _
    refine XS.iload X0.here hx rfl (hb hby at_39) rfl ?_
    exact k
  by_cases hz7 : v1 = (0 : Int32)
  · rw [if_pos hz7] at hf; cases hf
  rw [if_neg hz7] at hf
  obtain ⟨v8, hv8, hf⟩ := own_letE hf
  obtain ⟨a9, ha9, hf⟩ := own_letE hf
  obtain ⟨D9, hD9, hf⟩ := own_bind hf
  obtain ⟨T9, h9, X9, e9, O9, st9⟩ := newAW X0 hx hZ (aty := .int) (hw _ (List.mem_of_getElem? (i := 1) rfl)) e0 O0 rfl rfl hD9 (g := (mkF m 45 #[.val (.int i0), .val (.int i1), .val (.int i2), .val (.int i3), .val (.int i4), .val (.int i5), .val (.int v1), .val (.int v2), .val (.int v4), .val (.int v6), .val (.int v8), .unset, .unset, .unset, .unset, .unset, .unset, .unset, .unset, .unset, .unset, .unset, .unset] [(.int (3 : Int32))])) rfl (hb hby at_45) rfl (by decide) (by show _ + 1 ≤ 16; omega) (by show _ + 3 ≤ 128; omega)
  rw [ha9] at st9
  obtain ⟨D10, hq10, hf⟩ := own_bind hf
  obtain ⟨T10, h10, L10, X10, e10, O10, N10, st10⟩ := stIW X9 hx hZ e9 O9 N0 hq10 rfl (g := (mkF m 54 #[.val (.int i0), .val (.int i1), .val (.int i2), .val (.int i3), .val (.int i4), .val (.int i5), .val (.int v1), .val (.int v2), .val (.int v4), .val (.int v6), .val (.int v8), .val (.ref (n0 + a9)), .unset, .unset, .unset, .unset, .unset, .unset, .unset, .unset, .unset, .unset, .unset] [(.int v4), (.int (0 : Int32)), (.ref (n0 + a9))])) rfl rfl (hb hby at_54)
  obtain ⟨D11, hq11, hf⟩ := own_bind hf
  obtain ⟨T11, h11, L11, X11, e11, O11, N11, st11⟩ := stIW X10 hx hZ e10 O10 N10 hq11 rfl (g := (mkF m 60 #[.val (.int i0), .val (.int i1), .val (.int i2), .val (.int i3), .val (.int i4), .val (.int i5), .val (.int v1), .val (.int v2), .val (.int v4), .val (.int v6), .val (.int v8), .val (.ref (n0 + a9)), .unset, .unset, .unset, .unset, .unset, .unset, .unset, .unset, .unset, .unset, .unset] [(.int v6), (.int (1 : Int32)), (.ref (n0 + a9))])) rfl rfl (hb hby at_60)
  obtain ⟨D12, hq12, hf⟩ := own_bind hf
  obtain ⟨T12, h12, L12, X12, e12, O12, N12, st12⟩ := stIW X11 hx hZ e11 O11 N11 hq12 rfl (g := (mkF m 66 #[.val (.int i0), .val (.int i1), .val (.int i2), .val (.int i3), .val (.int i4), .val (.int i5), .val (.int v1), .val (.int v2), .val (.int v4), .val (.int v6), .val (.int v8), .val (.ref (n0 + a9)), .unset, .unset, .unset, .unset, .unset, .unset, .unset, .unset, .unset, .unset, .unset] [(.int v8), (.int (2 : Int32)), (.ref (n0 + a9))])) rfl rfl (hb hby at_66)
  obtain ⟨v13, hv13, hf⟩ := own_letE hf
  obtain ⟨v14, hv14, hf⟩ := own_letE hf
  obtain ⟨v15, hv15, hf⟩ := own_letE hf
  obtain ⟨v16, hv16, hf⟩ := own_letE hf
  obtain ⟨a17, ha17, hf⟩ := own_letE hf
  obtain ⟨D17, hD17, hf⟩ := own_bind hf
  obtain ⟨T17, h17, X17, e17, O17, st17⟩ := newAW X12 hx hZ (aty := .int) (hw _ (List.mem_of_getElem? (i := 1) rfl)) e12 O12 rfl rfl hD17 (g := (mkF m 114 #[.val (.int i0), .val (.int i1), .val (.int i2), .val (.int i3), .val (.int i4), .val (.int i5), .val (.int v1), .val (.int v2), .val (.int v4), .val (.int v6), .val (.int v8), .val (.ref (n0 + a9)), .val (.int v13), .val (.int v14), .val (.int v15), .val (.int v16), .unset, .unset, .unset, .unset, .unset, .unset, .unset] [(.int v2)])) rfl (hb hby at_114) rfl (by decide) (by show _ + 1 ≤ 16; omega) (by show _ + 8 ≤ 128; omega)
  rw [ha17] at st17
  refine Gl.on (B := T17.setTop (mkF m 120 #[.val (.int i0), .val (.int i1), .val (.int i2), .val (.int i3), .val (.int i4), .val (.int i5), .val (.int v1), .val (.int v2), .val (.int v4), .val (.int v6), .val (.int v8), .val (.ref (n0 + a9)), .val (.int v13), .val (.int v14), .val (.int v15), .val (.int v16), .val (.ref (n0 + a17)), .unset, .unset, .unset, .unset, .unset, .unset] [(.int v2)])) (fun t k => ?_) ?_
  · show Steps p.tables e below (T0.setTop (mkF m 41 #[.val (.int i0), .val (.int i1), .val (.int i2), .val (.int i3), .val (.int i4), .val (.int i5), .val (.int v1), .val (.int v2), .val (.int v4), .val (.int v6), .unset, .unset, .unset, .unset, .unset, .unset, .unset, .unset, .unset, .unset, .unset, .unset, .unset] [(.int v1), (.int (i5 &&& (2147483647 : Int32)))])) _
    refine iremM X0 hx rfl (hb hby at_41) rfl hz7 ?_
    show Steps p.tables e below (T0.setTop (mkF m 42 #[.val (.int i0), .val (.int i1), .val (.int i2), .val (.int i3), .val (.int i4), .val (.int i5), .val (.int v1), .val (.int v2), .val (.int v4), .val (.int v6), .unset, .unset, .unset, .unset, .unset, .unset, .unset, .unset, .unset, .unset, .unset, .unset, .unset] [(.int ((i5 &&& (2147483647 : Int32)) % v1))])) _
    refine own_to (congrArg (fun z => T0.setTop (mkF m 42 #[.val (.int i0), .val (.int i1), .val (.int i2), .val (.int i3), .val (.int i4), .val (.int i5), .val (.int v1), .val (.int v2), .val (.int v4), .val (.int v6), .unset, .unset, .unset, .unset, .unset, .unset, .unset, .unset, .unset, .unset, .unset, .unset, .unset] [(.int z)])) hv8) ?_
    show Steps p.tables e below (T0.setTop (mkF m 42 #[.val (.int i0), .val (.int i1), .val (.int i2), .val (.int i3), .val (.int i4), .val (.int i5), .val (.int v1), .val (.int v2), .val (.int v4), .val (.int v6), .unset, .unset, .unset, .unset, .unset, .unset, .unset, .unset, .unset, .unset, .unset, .unset, .unset] [(.int v8)])) _
    refine XS.istore X0.here hx rfl (hb hby at_42) rfl (l' := #[.val (.int i0), .val (.int i1), .val (.int i2), .val (.int i3), .val (.int i4), .val (.int i5), .val (.int v1), .val (.int v2), .val (.int v4), .val (.int v6), .val (.int v8), .unset, .unset, .unset, .unset, .unset, .unset, .unset, .unset, .unset, .unset, .unset, .unset]) rfl ?_
    show Steps p.tables e below (T0.setTop (mkF m 44 #[.val (.int i0), .val (.int i1), .val (.int i2), .val (.int i3), .val (.int i4), .val (.int i5), .val (.int v1), .val (.int v2), .val (.int v4), .val (.int v6), .val (.int v8), .unset, .unset, .unset, .unset, .unset, .unset, .unset, .unset, .unset, .unset, .unset, .unset] [])) _
    refine XS.iconst X0.here hx rfl (hb hby at_44) ?_
    show Steps p.tables e below (T0.setTop (mkF m 45 #[.val (.int i0), .val (.int i1), .val (.int i2), .val (.int i3), .val (.int i4), .val (.int i5), .val (.int v1), .val (.int v2), .val (.int v4), .val (.int v6), .val (.int v8), .unset, .unset, .unset, .unset, .unset, .unset, .unset, .unset, .unset, .unset, .unset, .unset] [(.int (3 : Int32))])) _
    refine st9 _ ?_
    show Steps p.tables e below (T9.setTop (mkF m 47 #[.val (.int i0), .val (.int i1), .val (.int i2), .val (.int i3), .val (.int i4), .val (.int i5), .val (.int v1), .val (.int v2), .val (.int v4), .val (.int v6), .val (.int v8), .unset, .unset, .unset, .unset, .unset, .unset, .unset, .unset, .unset, .unset, .unset, .unset] [(.ref (n0 + a9))])) _
    refine XS.astore X9.here hx rfl (hb hby at_47) rfl rfl (l' := #[.val (.int i0), .val (.int i1), .val (.int i2), .val (.int i3), .val (.int i4), .val (.int i5), .val (.int v1), .val (.int v2), .val (.int v4), .val (.int v6), .val (.int v8), .val (.ref (n0 + a9)), .unset, .unset, .unset, .unset, .unset, .unset, .unset, .unset, .unset, .unset, .unset]) rfl ?_
    show Steps p.tables e below (T9.setTop (mkF m 49 #[.val (.int i0), .val (.int i1), .val (.int i2), .val (.int i3), .val (.int i4), .val (.int i5), .val (.int v1), .val (.int v2), .val (.int v4), .val (.int v6), .val (.int v8), .val (.ref (n0 + a9)), .unset, .unset, .unset, .unset, .unset, .unset, .unset, .unset, .unset, .unset, .unset] [])) _
    refine XS.aload X9.here hx rfl (hb hby at_49) rfl rfl ?_
    show Steps p.tables e below (T9.setTop (mkF m 51 #[.val (.int i0), .val (.int i1), .val (.int i2), .val (.int i3), .val (.int i4), .val (.int i5), .val (.int v1), .val (.int v2), .val (.int v4), .val (.int v6), .val (.int v8), .val (.ref (n0 + a9)), .unset, .unset, .unset, .unset, .unset, .unset, .unset, .unset, .unset, .unset, .unset] [(.ref (n0 + a9))])) _
    refine XS.iconst X9.here hx rfl (hb hby at_51) ?_
    show Steps p.tables e below (T9.setTop (mkF m 52 #[.val (.int i0), .val (.int i1), .val (.int i2), .val (.int i3), .val (.int i4), .val (.int i5), .val (.int v1), .val (.int v2), .val (.int v4), .val (.int v6), .val (.int v8), .val (.ref (n0 + a9)), .unset, .unset, .unset, .unset, .unset, .unset, .unset, .unset, .unset, .unset, .unset] [(.int (0 : Int32)), (.ref (n0 + a9))])) _
    refine XS.iload X9.here hx rfl (hb hby at_52) rfl ?_
    show Steps p.tables e below (T9.setTop (mkF m 54 #[.val (.int i0), .val (.int i1), .val (.int i2), .val (.int i3), .val (.int i4), .val (.int i5), .val (.int v1), .val (.int v2), .val (.int v4), .val (.int v6), .val (.int v8), .val (.ref (n0 + a9)), .unset, .unset, .unset, .unset, .unset, .unset, .unset, .unset, .unset, .unset, .unset] [(.int v4), (.int (0 : Int32)), (.ref (n0 + a9))])) _
    refine st10 _ ?_
    show Steps p.tables e below (T10.setTop (mkF m 55 #[.val (.int i0), .val (.int i1), .val (.int i2), .val (.int i3), .val (.int i4), .val (.int i5), .val (.int v1), .val (.int v2), .val (.int v4), .val (.int v6), .val (.int v8), .val (.ref (n0 + a9)), .unset, .unset, .unset, .unset, .unset, .unset, .unset, .unset, .unset, .unset, .unset] [])) _
    refine XS.aload X10.here hx rfl (hb hby at_55) rfl rfl ?_
    show Steps p.tables e below (T10.setTop (mkF m 57 #[.val (.int i0), .val (.int i1), .val (.int i2), .val (.int i3), .val (.int i4), .val (.int i5), .val (.int v1), .val (.int v2), .val (.int v4), .val (.int v6), .val (.int v8), .val (.ref (n0 + a9)), .unset, .unset, .unset, .unset, .unset, .unset, .unset, .unset, .unset, .unset, .unset] [(.ref (n0 + a9))])) _
    refine XS.iconst X10.here hx rfl (hb hby at_57) ?_
    show Steps p.tables e below (T10.setTop (mkF m 58 #[.val (.int i0), .val (.int i1), .val (.int i2), .val (.int i3), .val (.int i4), .val (.int i5), .val (.int v1), .val (.int v2), .val (.int v4), .val (.int v6), .val (.int v8), .val (.ref (n0 + a9)), .unset, .unset, .unset, .unset, .unset, .unset, .unset, .unset, .unset, .unset, .unset] [(.int (1 : Int32)), (.ref (n0 + a9))])) _
    refine XS.iload X10.here hx rfl (hb hby at_58) rfl ?_
    show Steps p.tables e below (T10.setTop (mkF m 60 #[.val (.int i0), .val (.int i1), .val (.int i2), .val (.int i3), .val (.int i4), .val (.int i5), .val (.int v1), .val (.int v2), .val (.int v4), .val (.int v6), .val (.int v8), .val (.ref (n0 + a9)), .unset, .unset, .unset, .unset, .unset, .unset, .unset, .unset, .unset, .unset, .unset] [(.int v6), (.int (1 : Int32)), (.ref (n0 + a9))])) _
    refine st11 _ ?_
    show Steps p.tables e below (T11.setTop (mkF m 61 #[.val (.int i0), .val (.int i1), .val (.int i2), .val (.int i3), .val (.int i4), .val (.int i5), .val (.int v1), .val (.int v2), .val (.int v4), .val (.int v6), .val (.int v8), .val (.ref (n0 + a9)), .unset, .unset, .unset, .unset, .unset, .unset, .unset, .unset, .unset, .unset, .unset] [])) _
    refine XS.aload X11.here hx rfl (hb hby at_61) rfl rfl ?_
    show Steps p.tables e below (T11.setTop (mkF m 63 #[.val (.int i0), .val (.int i1), .val (.int i2), .val (.int i3), .val (.int i4), .val (.int i5), .val (.int v1), .val (.int v2), .val (.int v4), .val (.int v6), .val (.int v8), .val (.ref (n0 + a9)), .unset, .unset, .unset, .unset, .unset, .unset, .unset, .unset, .unset, .unset, .unset] [(.ref (n0 + a9))])) _
    refine XS.iconst X11.here hx rfl (hb hby at_63) ?_
    show Steps p.tables e below (T11.setTop (mkF m 64 #[.val (.int i0), .val (.int i1), .val (.int i2), .val (.int i3), .val (.int i4), .val (.int i5), .val (.int v1), .val (.int v2), .val (.int v4), .val (.int v6), .val (.int v8), .val (.ref (n0 + a9)), .unset, .unset, .unset, .unset, .unset, .unset, .unset, .unset, .unset, .unset, .unset] [(.int (2 : Int32)), (.ref (n0 + a9))])) _
    refine XS.iload X11.here hx rfl (hb hby at_64) rfl ?_
    show Steps p.tables e below (T11.setTop (mkF m 66 #[.val (.int i0), .val (.int i1), .val (.int i2), .val (.int i3), .val (.int i4), .val (.int i5), .val (.int v1), .val (.int v2), .val (.int v4), .val (.int v6), .val (.int v8), .val (.ref (n0 + a9)), .unset, .unset, .unset, .unset, .unset, .unset, .unset, .unset, .unset, .unset, .unset] [(.int v8), (.int (2 : Int32)), (.ref (n0 + a9))])) _
    refine st12 _ ?_
    show Steps p.tables e below (T12.setTop (mkF m 67 #[.val (.int i0), .val (.int i1), .val (.int i2), .val (.int i3), .val (.int i4), .val (.int i5), .val (.int v1), .val (.int v2), .val (.int v4), .val (.int v6), .val (.int v8), .val (.ref (n0 + a9)), .unset, .unset, .unset, .unset, .unset, .unset, .unset, .unset, .unset, .unset, .unset] [])) _
    refine XS.iloadN X12.here hx rfl (hb hby at_67) rfl ?_
    show Steps p.tables e below (T12.setTop (mkF m 68 #[.val (.int i0), .val (.int i1), .val (.int i2), .val (.int i3), .val (.int i4), .val (.int i5), .val (.int v1), .val (.int v2), .val (.int v4), .val (.int v6), .val (.int v8), .val (.ref (n0 + a9)), .unset, .unset, .unset, .unset, .unset, .unset, .unset, .unset, .unset, .unset, .unset] [(.int i2)])) _
    refine XS.sipush X12.here hx rfl (hb hby at_68) ?_
    show Steps p.tables e below (T12.setTop (mkF m 71 #[.val (.int i0), .val (.int i1), .val (.int i2), .val (.int i3), .val (.int i4), .val (.int i5), .val (.int v1), .val (.int v2), .val (.int v4), .val (.int v6), .val (.int v8), .val (.ref (n0 + a9)), .unset, .unset, .unset, .unset, .unset, .unset, .unset, .unset, .unset, .unset, .unset] [(.int (255 : Int32)), (.int i2)])) _
    refine XS.iand X12.here hx rfl (hb hby at_71) rfl ?_
    show Steps p.tables e below (T12.setTop (mkF m 72 #[.val (.int i0), .val (.int i1), .val (.int i2), .val (.int i3), .val (.int i4), .val (.int i5), .val (.int v1), .val (.int v2), .val (.int v4), .val (.int v6), .val (.int v8), .val (.ref (n0 + a9)), .unset, .unset, .unset, .unset, .unset, .unset, .unset, .unset, .unset, .unset, .unset] [(.int (i2 &&& (255 : Int32)))])) _
    refine XS.iconst X12.here hx rfl (hb hby at_72) ?_
    show Steps p.tables e below (T12.setTop (mkF m 73 #[.val (.int i0), .val (.int i1), .val (.int i2), .val (.int i3), .val (.int i4), .val (.int i5), .val (.int v1), .val (.int v2), .val (.int v4), .val (.int v6), .val (.int v8), .val (.ref (n0 + a9)), .unset, .unset, .unset, .unset, .unset, .unset, .unset, .unset, .unset, .unset, .unset] [(.int (3 : Int32)), (.int (i2 &&& (255 : Int32)))])) _
    refine iremM X12 hx rfl (hb hby at_73) rfl (by decide) ?_
    show Steps p.tables e below (T12.setTop (mkF m 74 #[.val (.int i0), .val (.int i1), .val (.int i2), .val (.int i3), .val (.int i4), .val (.int i5), .val (.int v1), .val (.int v2), .val (.int v4), .val (.int v6), .val (.int v8), .val (.ref (n0 + a9)), .unset, .unset, .unset, .unset, .unset, .unset, .unset, .unset, .unset, .unset, .unset] [(.int ((i2 &&& (255 : Int32)) % (3 : Int32)))])) _
    refine own_to (congrArg (fun z => T12.setTop (mkF m 74 #[.val (.int i0), .val (.int i1), .val (.int i2), .val (.int i3), .val (.int i4), .val (.int i5), .val (.int v1), .val (.int v2), .val (.int v4), .val (.int v6), .val (.int v8), .val (.ref (n0 + a9)), .unset, .unset, .unset, .unset, .unset, .unset, .unset, .unset, .unset, .unset, .unset] [(.int z)])) hv13) ?_
    show Steps p.tables e below (T12.setTop (mkF m 74 #[.val (.int i0), .val (.int i1), .val (.int i2), .val (.int i3), .val (.int i4), .val (.int i5), .val (.int v1), .val (.int v2), .val (.int v4), .val (.int v6), .val (.int v8), .val (.ref (n0 + a9)), .unset, .unset, .unset, .unset, .unset, .unset, .unset, .unset, .unset, .unset, .unset] [(.int v13)])) _
    refine XS.istore X12.here hx rfl (hb hby at_74) rfl (l' := #[.val (.int i0), .val (.int i1), .val (.int i2), .val (.int i3), .val (.int i4), .val (.int i5), .val (.int v1), .val (.int v2), .val (.int v4), .val (.int v6), .val (.int v8), .val (.ref (n0 + a9)), .val (.int v13), .unset, .unset, .unset, .unset, .unset, .unset, .unset, .unset, .unset, .unset]) rfl ?_
    show Steps p.tables e below (T12.setTop (mkF m 76 #[.val (.int i0), .val (.int i1), .val (.int i2), .val (.int i3), .val (.int i4), .val (.int i5), .val (.int v1), .val (.int v2), .val (.int v4), .val (.int v6), .val (.int v8), .val (.ref (n0 + a9)), .val (.int v13), .unset, .unset, .unset, .unset, .unset, .unset, .unset, .unset, .unset, .unset] [])) _
    refine XS.iloadN X12.here hx rfl (hb hby at_76) rfl ?_
    show Steps p.tables e below (T12.setTop (mkF m 77 #[.val (.int i0), .val (.int i1), .val (.int i2), .val (.int i3), .val (.int i4), .val (.int i5), .val (.int v1), .val (.int v2), .val (.int v4), .val (.int v6), .val (.int v8), .val (.ref (n0 + a9)), .val (.int v13), .unset, .unset, .unset, .unset, .unset, .unset, .unset, .unset, .unset, .unset] [(.int i2)])) _
    refine XS.bipush X12.here hx rfl (hb hby at_77) ?_
    show Steps p.tables e below (T12.setTop (mkF m 79 #[.val (.int i0), .val (.int i1), .val (.int i2), .val (.int i3), .val (.int i4), .val (.int i5), .val (.int v1), .val (.int v2), .val (.int v4), .val (.int v6), .val (.int v8), .val (.ref (n0 + a9)), .val (.int v13), .unset, .unset, .unset, .unset, .unset, .unset, .unset, .unset, .unset, .unset] [(.int (8 : Int32)), (.int i2)])) _
    refine XS.iushr X12.here hx rfl (hb hby at_79) rfl ?_
    show Steps p.tables e below (T12.setTop (mkF m 80 #[.val (.int i0), .val (.int i1), .val (.int i2), .val (.int i3), .val (.int i4), .val (.int i5), .val (.int v1), .val (.int v2), .val (.int v4), .val (.int v6), .val (.int v8), .val (.ref (n0 + a9)), .val (.int v13), .unset, .unset, .unset, .unset, .unset, .unset, .unset, .unset, .unset, .unset] [(.int ((i2.toUInt32 >>> ((8 : Int32) &&& 31).toUInt32).toInt32))])) _
    refine XS.sipush X12.here hx rfl (hb hby at_80) ?_
    show Steps p.tables e below (T12.setTop (mkF m 83 #[.val (.int i0), .val (.int i1), .val (.int i2), .val (.int i3), .val (.int i4), .val (.int i5), .val (.int v1), .val (.int v2), .val (.int v4), .val (.int v6), .val (.int v8), .val (.ref (n0 + a9)), .val (.int v13), .unset, .unset, .unset, .unset, .unset, .unset, .unset, .unset, .unset, .unset] [(.int (255 : Int32)), (.int ((i2.toUInt32 >>> ((8 : Int32) &&& 31).toUInt32).toInt32))])) _
    refine XS.iand X12.here hx rfl (hb hby at_83) rfl ?_
    show Steps p.tables e below (T12.setTop (mkF m 84 #[.val (.int i0), .val (.int i1), .val (.int i2), .val (.int i3), .val (.int i4), .val (.int i5), .val (.int v1), .val (.int v2), .val (.int v4), .val (.int v6), .val (.int v8), .val (.ref (n0 + a9)), .val (.int v13), .unset, .unset, .unset, .unset, .unset, .unset, .unset, .unset, .unset, .unset] [(.int (((i2.toUInt32 >>> ((8 : Int32) &&& 31).toUInt32).toInt32) &&& (255 : Int32)))])) _
    refine XS.iconst X12.here hx rfl (hb hby at_84) ?_
    show Steps p.tables e below (T12.setTop (mkF m 85 #[.val (.int i0), .val (.int i1), .val (.int i2), .val (.int i3), .val (.int i4), .val (.int i5), .val (.int v1), .val (.int v2), .val (.int v4), .val (.int v6), .val (.int v8), .val (.ref (n0 + a9)), .val (.int v13), .unset, .unset, .unset, .unset, .unset, .unset, .unset, .unset, .unset, .unset] [(.int (3 : Int32)), (.int (((i2.toUInt32 >>> ((8 : Int32) &&& 31).toUInt32).toInt32) &&& (255 : Int32)))])) _
    refine iremM X12 hx rfl (hb hby at_85) rfl (by decide) ?_
    show Steps p.tables e below (T12.setTop (mkF m 86 #[.val (.int i0), .val (.int i1), .val (.int i2), .val (.int i3), .val (.int i4), .val (.int i5), .val (.int v1), .val (.int v2), .val (.int v4), .val (.int v6), .val (.int v8), .val (.ref (n0 + a9)), .val (.int v13), .unset, .unset, .unset, .unset, .unset, .unset, .unset, .unset, .unset, .unset] [(.int ((((i2.toUInt32 >>> ((8 : Int32) &&& 31).toUInt32).toInt32) &&& (255 : Int32)) % (3 : Int32)))])) _
    refine own_to (congrArg (fun z => T12.setTop (mkF m 86 #[.val (.int i0), .val (.int i1), .val (.int i2), .val (.int i3), .val (.int i4), .val (.int i5), .val (.int v1), .val (.int v2), .val (.int v4), .val (.int v6), .val (.int v8), .val (.ref (n0 + a9)), .val (.int v13), .unset, .unset, .unset, .unset, .unset, .unset, .unset, .unset, .unset, .unset] [(.int z)])) hv14) ?_
    show Steps p.tables e below (T12.setTop (mkF m 86 #[.val (.int i0), .val (.int i1), .val (.int i2), .val (.int i3), .val (.int i4), .val (.int i5), .val (.int v1), .val (.int v2), .val (.int v4), .val (.int v6), .val (.int v8), .val (.ref (n0 + a9)), .val (.int v13), .unset, .unset, .unset, .unset, .unset, .unset, .unset, .unset, .unset, .unset] [(.int v14)])) _
    refine XS.istore X12.here hx rfl (hb hby at_86) rfl (l' := #[.val (.int i0), .val (.int i1), .val (.int i2), .val (.int i3), .val (.int i4), .val (.int i5), .val (.int v1), .val (.int v2), .val (.int v4), .val (.int v6), .val (.int v8), .val (.ref (n0 + a9)), .val (.int v13), .val (.int v14), .unset, .unset, .unset, .unset, .unset, .unset, .unset, .unset, .unset]) rfl ?_
    show Steps p.tables e below (T12.setTop (mkF m 88 #[.val (.int i0), .val (.int i1), .val (.int i2), .val (.int i3), .val (.int i4), .val (.int i5), .val (.int v1), .val (.int v2), .val (.int v4), .val (.int v6), .val (.int v8), .val (.ref (n0 + a9)), .val (.int v13), .val (.int v14), .unset, .unset, .unset, .unset, .unset, .unset, .unset, .unset, .unset] [])) _
    refine XS.iloadN X12.here hx rfl (hb hby at_88) rfl ?_
    show Steps p.tables e below (T12.setTop (mkF m 89 #[.val (.int i0), .val (.int i1), .val (.int i2), .val (.int i3), .val (.int i4), .val (.int i5), .val (.int v1), .val (.int v2), .val (.int v4), .val (.int v6), .val (.int v8), .val (.ref (n0 + a9)), .val (.int v13), .val (.int v14), .unset, .unset, .unset, .unset, .unset, .unset, .unset, .unset, .unset] [(.int i2)])) _
    refine XS.bipush X12.here hx rfl (hb hby at_89) ?_
    show Steps p.tables e below (T12.setTop (mkF m 91 #[.val (.int i0), .val (.int i1), .val (.int i2), .val (.int i3), .val (.int i4), .val (.int i5), .val (.int v1), .val (.int v2), .val (.int v4), .val (.int v6), .val (.int v8), .val (.ref (n0 + a9)), .val (.int v13), .val (.int v14), .unset, .unset, .unset, .unset, .unset, .unset, .unset, .unset, .unset] [(.int (16 : Int32)), (.int i2)])) _
    refine XS.iushr X12.here hx rfl (hb hby at_91) rfl ?_
    show Steps p.tables e below (T12.setTop (mkF m 92 #[.val (.int i0), .val (.int i1), .val (.int i2), .val (.int i3), .val (.int i4), .val (.int i5), .val (.int v1), .val (.int v2), .val (.int v4), .val (.int v6), .val (.int v8), .val (.ref (n0 + a9)), .val (.int v13), .val (.int v14), .unset, .unset, .unset, .unset, .unset, .unset, .unset, .unset, .unset] [(.int ((i2.toUInt32 >>> ((16 : Int32) &&& 31).toUInt32).toInt32))])) _
    refine XS.sipush X12.here hx rfl (hb hby at_92) ?_
    show Steps p.tables e below (T12.setTop (mkF m 95 #[.val (.int i0), .val (.int i1), .val (.int i2), .val (.int i3), .val (.int i4), .val (.int i5), .val (.int v1), .val (.int v2), .val (.int v4), .val (.int v6), .val (.int v8), .val (.ref (n0 + a9)), .val (.int v13), .val (.int v14), .unset, .unset, .unset, .unset, .unset, .unset, .unset, .unset, .unset] [(.int (255 : Int32)), (.int ((i2.toUInt32 >>> ((16 : Int32) &&& 31).toUInt32).toInt32))])) _
    refine XS.iand X12.here hx rfl (hb hby at_95) rfl ?_
    show Steps p.tables e below (T12.setTop (mkF m 96 #[.val (.int i0), .val (.int i1), .val (.int i2), .val (.int i3), .val (.int i4), .val (.int i5), .val (.int v1), .val (.int v2), .val (.int v4), .val (.int v6), .val (.int v8), .val (.ref (n0 + a9)), .val (.int v13), .val (.int v14), .unset, .unset, .unset, .unset, .unset, .unset, .unset, .unset, .unset] [(.int (((i2.toUInt32 >>> ((16 : Int32) &&& 31).toUInt32).toInt32) &&& (255 : Int32)))])) _
    refine XS.iconst X12.here hx rfl (hb hby at_96) ?_
    show Steps p.tables e below (T12.setTop (mkF m 97 #[.val (.int i0), .val (.int i1), .val (.int i2), .val (.int i3), .val (.int i4), .val (.int i5), .val (.int v1), .val (.int v2), .val (.int v4), .val (.int v6), .val (.int v8), .val (.ref (n0 + a9)), .val (.int v13), .val (.int v14), .unset, .unset, .unset, .unset, .unset, .unset, .unset, .unset, .unset] [(.int (3 : Int32)), (.int (((i2.toUInt32 >>> ((16 : Int32) &&& 31).toUInt32).toInt32) &&& (255 : Int32)))])) _
    refine iremM X12 hx rfl (hb hby at_97) rfl (by decide) ?_
    show Steps p.tables e below (T12.setTop (mkF m 98 #[.val (.int i0), .val (.int i1), .val (.int i2), .val (.int i3), .val (.int i4), .val (.int i5), .val (.int v1), .val (.int v2), .val (.int v4), .val (.int v6), .val (.int v8), .val (.ref (n0 + a9)), .val (.int v13), .val (.int v14), .unset, .unset, .unset, .unset, .unset, .unset, .unset, .unset, .unset] [(.int ((((i2.toUInt32 >>> ((16 : Int32) &&& 31).toUInt32).toInt32) &&& (255 : Int32)) % (3 : Int32)))])) _
    refine own_to (congrArg (fun z => T12.setTop (mkF m 98 #[.val (.int i0), .val (.int i1), .val (.int i2), .val (.int i3), .val (.int i4), .val (.int i5), .val (.int v1), .val (.int v2), .val (.int v4), .val (.int v6), .val (.int v8), .val (.ref (n0 + a9)), .val (.int v13), .val (.int v14), .unset, .unset, .unset, .unset, .unset, .unset, .unset, .unset, .unset] [(.int z)])) hv15) ?_
    show Steps p.tables e below (T12.setTop (mkF m 98 #[.val (.int i0), .val (.int i1), .val (.int i2), .val (.int i3), .val (.int i4), .val (.int i5), .val (.int v1), .val (.int v2), .val (.int v4), .val (.int v6), .val (.int v8), .val (.ref (n0 + a9)), .val (.int v13), .val (.int v14), .unset, .unset, .unset, .unset, .unset, .unset, .unset, .unset, .unset] [(.int v15)])) _
    refine XS.istore X12.here hx rfl (hb hby at_98) rfl (l' := #[.val (.int i0), .val (.int i1), .val (.int i2), .val (.int i3), .val (.int i4), .val (.int i5), .val (.int v1), .val (.int v2), .val (.int v4), .val (.int v6), .val (.int v8), .val (.ref (n0 + a9)), .val (.int v13), .val (.int v14), .val (.int v15), .unset, .unset, .unset, .unset, .unset, .unset, .unset, .unset]) rfl ?_
    show Steps p.tables e below (T12.setTop (mkF m 100 #[.val (.int i0), .val (.int i1), .val (.int i2), .val (.int i3), .val (.int i4), .val (.int i5), .val (.int v1), .val (.int v2), .val (.int v4), .val (.int v6), .val (.int v8), .val (.ref (n0 + a9)), .val (.int v13), .val (.int v14), .val (.int v15), .unset, .unset, .unset, .unset, .unset, .unset, .unset, .unset] [])) _
    refine XS.iloadN X12.here hx rfl (hb hby at_100) rfl ?_
    show Steps p.tables e below (T12.setTop (mkF m 101 #[.val (.int i0), .val (.int i1), .val (.int i2), .val (.int i3), .val (.int i4), .val (.int i5), .val (.int v1), .val (.int v2), .val (.int v4), .val (.int v6), .val (.int v8), .val (.ref (n0 + a9)), .val (.int v13), .val (.int v14), .val (.int v15), .unset, .unset, .unset, .unset, .unset, .unset, .unset, .unset] [(.int i2)])) _
    refine XS.bipush X12.here hx rfl (hb hby at_101) ?_
    show Steps p.tables e below (T12.setTop (mkF m 103 #[.val (.int i0), .val (.int i1), .val (.int i2), .val (.int i3), .val (.int i4), .val (.int i5), .val (.int v1), .val (.int v2), .val (.int v4), .val (.int v6), .val (.int v8), .val (.ref (n0 + a9)), .val (.int v13), .val (.int v14), .val (.int v15), .unset, .unset, .unset, .unset, .unset, .unset, .unset, .unset] [(.int (24 : Int32)), (.int i2)])) _
    refine XS.iushr X12.here hx rfl (hb hby at_103) rfl ?_
    show Steps p.tables e below (T12.setTop (mkF m 104 #[.val (.int i0), .val (.int i1), .val (.int i2), .val (.int i3), .val (.int i4), .val (.int i5), .val (.int v1), .val (.int v2), .val (.int v4), .val (.int v6), .val (.int v8), .val (.ref (n0 + a9)), .val (.int v13), .val (.int v14), .val (.int v15), .unset, .unset, .unset, .unset, .unset, .unset, .unset, .unset] [(.int ((i2.toUInt32 >>> ((24 : Int32) &&& 31).toUInt32).toInt32))])) _
    refine XS.sipush X12.here hx rfl (hb hby at_104) ?_
    show Steps p.tables e below (T12.setTop (mkF m 107 #[.val (.int i0), .val (.int i1), .val (.int i2), .val (.int i3), .val (.int i4), .val (.int i5), .val (.int v1), .val (.int v2), .val (.int v4), .val (.int v6), .val (.int v8), .val (.ref (n0 + a9)), .val (.int v13), .val (.int v14), .val (.int v15), .unset, .unset, .unset, .unset, .unset, .unset, .unset, .unset] [(.int (255 : Int32)), (.int ((i2.toUInt32 >>> ((24 : Int32) &&& 31).toUInt32).toInt32))])) _
    refine XS.iand X12.here hx rfl (hb hby at_107) rfl ?_
    show Steps p.tables e below (T12.setTop (mkF m 108 #[.val (.int i0), .val (.int i1), .val (.int i2), .val (.int i3), .val (.int i4), .val (.int i5), .val (.int v1), .val (.int v2), .val (.int v4), .val (.int v6), .val (.int v8), .val (.ref (n0 + a9)), .val (.int v13), .val (.int v14), .val (.int v15), .unset, .unset, .unset, .unset, .unset, .unset, .unset, .unset] [(.int (((i2.toUInt32 >>> ((24 : Int32) &&& 31).toUInt32).toInt32) &&& (255 : Int32)))])) _
    refine XS.iconst X12.here hx rfl (hb hby at_108) ?_
    show Steps p.tables e below (T12.setTop (mkF m 109 #[.val (.int i0), .val (.int i1), .val (.int i2), .val (.int i3), .val (.int i4), .val (.int i5), .val (.int v1), .val (.int v2), .val (.int v4), .val (.int v6), .val (.int v8), .val (.ref (n0 + a9)), .val (.int v13), .val (.int v14), .val (.int v15), .unset, .unset, .unset, .unset, .unset, .unset, .unset, .unset] [(.int (3 : Int32)), (.int (((i2.toUInt32 >>> ((24 : Int32) &&& 31).toUInt32).toInt32) &&& (255 : Int32)))])) _
    refine iremM X12 hx rfl (hb hby at_109) rfl (by decide) ?_
    show Steps p.tables e below (T12.setTop (mkF m 110 #[.val (.int i0), .val (.int i1), .val (.int i2), .val (.int i3), .val (.int i4), .val (.int i5), .val (.int v1), .val (.int v2), .val (.int v4), .val (.int v6), .val (.int v8), .val (.ref (n0 + a9)), .val (.int v13), .val (.int v14), .val (.int v15), .unset, .unset, .unset, .unset, .unset, .unset, .unset, .unset] [(.int ((((i2.toUInt32 >>> ((24 : Int32) &&& 31).toUInt32).toInt32) &&& (255 : Int32)) % (3 : Int32)))])) _
    refine own_to (congrArg (fun z => T12.setTop (mkF m 110 #[.val (.int i0), .val (.int i1), .val (.int i2), .val (.int i3), .val (.int i4), .val (.int i5), .val (.int v1), .val (.int v2), .val (.int v4), .val (.int v6), .val (.int v8), .val (.ref (n0 + a9)), .val (.int v13), .val (.int v14), .val (.int v15), .unset, .unset, .unset, .unset, .unset, .unset, .unset, .unset] [(.int z)])) hv16) ?_
    show Steps p.tables e below (T12.setTop (mkF m 110 #[.val (.int i0), .val (.int i1), .val (.int i2), .val (.int i3), .val (.int i4), .val (.int i5), .val (.int v1), .val (.int v2), .val (.int v4), .val (.int v6), .val (.int v8), .val (.ref (n0 + a9)), .val (.int v13), .val (.int v14), .val (.int v15), .unset, .unset, .unset, .unset, .unset, .unset, .unset, .unset] [(.int v16)])) _
    refine XS.istore X12.here hx rfl (hb hby at_110) rfl (l' := #[.val (.int i0), .val (.int i1), .val (.int i2), .val (.int i3), .val (.int i4), .val (.int i5), .val (.int v1), .val (.int v2), .val (.int v4), .val (.int v6), .val (.int v8), .val (.ref (n0 + a9)), .val (.int v13), .val (.int v14), .val (.int v15), .val (.int v16), .unset, .unset, .unset, .unset, .unset, .unset, .unset]) rfl ?_
    show Steps p.tables e below (T12.setTop (mkF m 112 #[.val (.int i0), .val (.int i1), .val (.int i2), .val (.int i3), .val (.int i4), .val (.int i5), .val (.int v1), .val (.int v2), .val (.int v4), .val (.int v6), .val (.int v8), .val (.ref (n0 + a9)), .val (.int v13), .val (.int v14), .val (.int v15), .val (.int v16), .unset, .unset, .unset, .unset, .unset, .unset, .unset] [])) _
    refine XS.iload X12.here hx rfl (hb hby at_112) rfl ?_
    show Steps p.tables e below (T12.setTop (mkF m 114 #[.val (.int i0), .val (.int i1), .val (.int i2), .val (.int i3), .val (.int i4), .val (.int i5), .val (.int v1), .val (.int v2), .val (.int v4), .val (.int v6), .val (.int v8), .val (.ref (n0 + a9)), .val (.int v13), .val (.int v14), .val (.int v15), .val (.int v16), .unset, .unset, .unset, .unset, .unset, .unset, .unset] [(.int v2)])) _
    refine st17 _ ?_
    show Steps p.tables e below (T17.setTop (mkF m 116 #[.val (.int i0), .val (.int i1), .val (.int i2), .val (.int i3), .val (.int i4), .val (.int i5), .val (.int v1), .val (.int v2), .val (.int v4), .val (.int v6), .val (.int v8), .val (.ref (n0 + a9)), .val (.int v13), .val (.int v14), .val (.int v15), .val (.int v16), .unset, .unset, .unset, .unset, .unset, .unset, .unset] [(.ref (n0 + a17))])) _
    refine XS.astore X17.here hx rfl (hb hby at_116) rfl rfl (l' := #[.val (.int i0), .val (.int i1), .val (.int i2), .val (.int i3), .val (.int i4), .val (.int i5), .val (.int v1), .val (.int v2), .val (.int v4), .val (.int v6), .val (.int v8), .val (.ref (n0 + a9)), .val (.int v13), .val (.int v14), .val (.int v15), .val (.int v16), .val (.ref (n0 + a17)), .unset, .unset, .unset, .unset, .unset, .unset]) rfl ?_
    show Steps p.tables e below (T17.setTop (mkF m 118 #[.val (.int i0), .val (.int i1), .val (.int i2), .val (.int i3), .val (.int i4), .val (.int i5), .val (.int v1), .val (.int v2), .val (.int v4), .val (.int v6), .val (.int v8), .val (.ref (n0 + a9)), .val (.int v13), .val (.int v14), .val (.int v15), .val (.int v16), .val (.ref (n0 + a17)), .unset, .unset, .unset, .unset, .unset, .unset] [])) _
    refine XS.iload X17.here hx rfl (hb hby at_118) rfl ?_
    exact k
  by_cases hc18 : (0 : Int32) < v2
  · rw [if_pos hc18] at hf
    obtain ⟨D19, hq19, hf⟩ := own_bind hf
    obtain ⟨T19, h19, L19, X19, e19, O19, N19, st19⟩ := stIW X17 hx hZ e17 O17 N12 hq19 rfl (g := (mkF m 128 #[.val (.int i0), .val (.int i1), .val (.int i2), .val (.int i3), .val (.int i4), .val (.int i5), .val (.int v1), .val (.int v2), .val (.int v4), .val (.int v6), .val (.int v8), .val (.ref (n0 + a9)), .val (.int v13), .val (.int v14), .val (.int v15), .val (.int v16), .val (.ref (n0 + a17)), .unset, .unset, .unset, .unset, .unset, .unset] [(.int v13), (.int (0 : Int32)), (.ref (n0 + a17))])) rfl rfl (hb hby at_128)
    refine Gl.on (B := T19.setTop (mkF m 129 #[.val (.int i0), .val (.int i1), .val (.int i2), .val (.int i3), .val (.int i4), .val (.int i5), .val (.int v1), .val (.int v2), .val (.int v4), .val (.int v6), .val (.int v8), .val (.ref (n0 + a9)), .val (.int v13), .val (.int v14), .val (.int v15), .val (.int v16), .val (.ref (n0 + a17)), .unset, .unset, .unset, .unset, .unset, .unset] [])) (fun t k => ?_) ?_
    · show Steps p.tables e below (T17.setTop (mkF m 120 #[.val (.int i0), .val (.int i1), .val (.int i2), .val (.int i3), .val (.int i4), .val (.int i5), .val (.int v1), .val (.int v2), .val (.int v4), .val (.int v6), .val (.int v8), .val (.ref (n0 + a9)), .val (.int v13), .val (.int v14), .val (.int v15), .val (.int v16), .val (.ref (n0 + a17)), .unset, .unset, .unset, .unset, .unset, .unset] [(.int v2)])) _
      refine XS.ifNo X17.here hx rfl (hb hby at_120) rfl ((if0 _ _).trans (tlt hc18).2.2.2) ?_
      show Steps p.tables e below (T17.setTop (mkF m 123 #[.val (.int i0), .val (.int i1), .val (.int i2), .val (.int i3), .val (.int i4), .val (.int i5), .val (.int v1), .val (.int v2), .val (.int v4), .val (.int v6), .val (.int v8), .val (.ref (n0 + a9)), .val (.int v13), .val (.int v14), .val (.int v15), .val (.int v16), .val (.ref (n0 + a17)), .unset, .unset, .unset, .unset, .unset, .unset] [])) _
      refine XS.aload X17.here hx rfl (hb hby at_123) rfl rfl ?_
      show Steps p.tables e below (T17.setTop (mkF m 125 #[.val (.int i0), .val (.int i1), .val (.int i2), .val (.int i3), .val (.int i4), .val (.int i5), .val (.int v1), .val (.int v2), .val (.int v4), .val (.int v6), .val (.int v8), .val (.ref (n0 + a9)), .val (.int v13), .val (.int v14), .val (.int v15), .val (.int v16), .val (.ref (n0 + a17)), .unset, .unset, .unset, .unset, .unset, .unset] [(.ref (n0 + a17))])) _
      refine XS.iconst X17.here hx rfl (hb hby at_125) ?_
      show Steps p.tables e below (T17.setTop (mkF m 126 #[.val (.int i0), .val (.int i1), .val (.int i2), .val (.int i3), .val (.int i4), .val (.int i5), .val (.int v1), .val (.int v2), .val (.int v4), .val (.int v6), .val (.int v8), .val (.ref (n0 + a9)), .val (.int v13), .val (.int v14), .val (.int v15), .val (.int v16), .val (.ref (n0 + a17)), .unset, .unset, .unset, .unset, .unset, .unset] [(.int (0 : Int32)), (.ref (n0 + a17))])) _
      refine XS.iload X17.here hx rfl (hb hby at_126) rfl ?_
      show Steps p.tables e below (T17.setTop (mkF m 128 #[.val (.int i0), .val (.int i1), .val (.int i2), .val (.int i3), .val (.int i4), .val (.int i5), .val (.int v1), .val (.int v2), .val (.int v4), .val (.int v6), .val (.int v8), .val (.ref (n0 + a9)), .val (.int v13), .val (.int v14), .val (.int v15), .val (.int v16), .val (.ref (n0 + a17)), .unset, .unset, .unset, .unset, .unset, .unset] [(.int v13), (.int (0 : Int32)), (.ref (n0 + a17))])) _
      refine st19 _ ?_
      exact k
    exact bt0_129 hw hC X19 e19 O19 N19 (by omega) (by omega) hf
  · rw [if_neg hc18] at hf
    refine Gl.on (B := T17.setTop (mkF m 129 #[.val (.int i0), .val (.int i1), .val (.int i2), .val (.int i3), .val (.int i4), .val (.int i5), .val (.int v1), .val (.int v2), .val (.int v4), .val (.int v6), .val (.int v8), .val (.ref (n0 + a9)), .val (.int v13), .val (.int v14), .val (.int v15), .val (.int v16), .val (.ref (n0 + a17)), .unset, .unset, .unset, .unset, .unset, .unset] [])) (fun t k => ?_) ?_
    · show Steps p.tables e below (T17.setTop (mkF m 120 #[.val (.int i0), .val (.int i1), .val (.int i2), .val (.int i3), .val (.int i4), .val (.int i5), .val (.int v1), .val (.int v2), .val (.int v4), .val (.int v6), .val (.int v8), .val (.ref (n0 + a9)), .val (.int v13), .val (.int v14), .val (.int v15), .val (.int v16), .val (.ref (n0 + a17)), .unset, .unset, .unset, .unset, .unset, .unset] [(.int v2)])) _
      refine XS.ifYes X17.here hx rfl (pc0 := 120) (pc' := 129) rfl (hb hby at_120) rfl ((if0 _ _).trans (flt hc18).2.2.2) (by decide) (by decide) ?_
      exact k
    exact bt0_129 hw hC X17 e17 O17 N12 (by omega) (by omega) hf
theorem own_fin (x : Int32) (n : Nat) (h0 : 0 ≤ x.toInt) (h1 : x.toInt < n) : ∃ p : Fin n, x = p.1.toInt32 :=
  ⟨⟨x.toNatClampNeg, by simp only [Int32.toNatClampNeg]; omega⟩, (back32 (by rw [Int32.lt_iff_toInt_lt]; have : (0 : Int32).toInt = 0 := rfl; omega)).1.symm⟩
theorem own_modr (x n : Int32) (hn : 0 < n.toInt) : 0 ≤ ((x &&& (2147483647 : Int32)) % n).toInt ∧ ((x &&& (2147483647 : Int32)) % n).toInt < n.toInt := by
  have e1 := c_and x (2147483647 : Int32) (by decide)
  have e2 := (c_irem (x &&& (2147483647 : Int32)) n n.toInt rfl).1 e1.1
  rw [e2]
  exact ⟨Int.emod_nonneg _ (by omega), Int.emod_lt_of_pos _ hn⟩
theorem own_mm (x n : Int32) (hn : 0 < n.toInt) : ((((x &&& (2147483647 : Int32)) % n) &&& (2147483647 : Int32)) % n) = ((x &&& (2147483647 : Int32)) % n) := by
  obtain ⟨h1, h2⟩ := own_modr x n hn
  have e0 : ((2 ^ 31 : Nat) : Int) = 2147483648 := by decide
  have u := Int32.toInt_lt ((x &&& (2147483647 : Int32)) % n)
  have e1 : (((x &&& (2147483647 : Int32)) % n) &&& (2147483647 : Int32)).toInt = ((x &&& (2147483647 : Int32)) % n).toInt := by
    rw [c_mask _ 2147483647 31 (by decide) (by decide), e0]; omega
  have e2 : (((x &&& (2147483647 : Int32)) % n) &&& (2147483647 : Int32)) = ((x &&& (2147483647 : Int32)) % n) := Int32.toInt_inj.mp e1
  rw [e2]
  apply Int32.toInt_inj.mp
  rw [(c_irem _ n n.toInt rfl).1 h1]
  exact Int.emod_eq_of_lt h1 h2
theorem own_ex {α : Type} {o : Option (Int32 × α)} (h : o.map Prod.fst = some (1 : Int32)) : ∃ D', o = some ((1 : Int32), D') := by
  cases o with
  | none => cases h
  | some q => obtain ⟨x, D⟩ := q; exact ⟨D, by cases h; rfl⟩
theorem own_letU {α β : Type} {a : α} {f : α → β} : own_let a f = f a := rfl
theorem own_f3D (_D : Hp) (n a b c d k : Int32) : ∃ x, ∀ D, f3 D n a b c d k = some (x, D) := by
  have h1 : ∀ (d k x : Int32), ∃ y, ∀ D, b3_44 D n d k x = some (y, D) := by
    intro d k x
    by_cases h : (3 : Int32) < n
    · by_cases h' : d < k
      · exact ⟨_, fun D => by rw [b3_44, if_pos h, if_pos h']⟩
      · exact ⟨_, fun D => by rw [b3_44, if_pos h, if_neg h']⟩
    · exact ⟨_, fun D => by rw [b3_44, if_neg h]⟩
  have h2 : ∀ (c d k x : Int32), ∃ y, ∀ D, b3_30 D n c d k x = some (y, D) := by
    intro c d k x
    by_cases h : (2 : Int32) < n
    · by_cases h' : c < k
      · obtain ⟨y, hy⟩ := h1 d k (x + 1); exact ⟨y, fun D => by rw [b3_30, if_pos h, if_pos h', hy]⟩
      · obtain ⟨y, hy⟩ := h1 d k x; exact ⟨y, fun D => by rw [b3_30, if_pos h, if_neg h', hy]⟩
    · obtain ⟨y, hy⟩ := h1 d k x; exact ⟨y, fun D => by rw [b3_30, if_neg h, hy]⟩
  have h3 : ∀ (b c d k x : Int32), ∃ y, ∀ D, b3_16 D n b c d k x = some (y, D) := by
    intro b c d k x
    by_cases h : (1 : Int32) < n
    · by_cases h' : b < k
      · obtain ⟨y, hy⟩ := h2 c d k (x + 1); exact ⟨y, fun D => by rw [b3_16, if_pos h, if_pos h', hy]⟩
      · obtain ⟨y, hy⟩ := h2 c d k x; exact ⟨y, fun D => by rw [b3_16, if_pos h, if_neg h', hy]⟩
    · obtain ⟨y, hy⟩ := h2 c d k x; exact ⟨y, fun D => by rw [b3_16, if_neg h, hy]⟩
  by_cases h : (0 : Int32) < n
  · by_cases h' : a < k
    · obtain ⟨y, hy⟩ := h3 b c d k (0 + 1); exact ⟨y, fun D => by rw [f3, if_pos h, if_pos h', hy]⟩
    · obtain ⟨y, hy⟩ := h3 b c d k 0; exact ⟨y, fun D => by rw [f3, if_pos h, if_neg h', hy]⟩
  · obtain ⟨y, hy⟩ := h3 b c d k 0; exact ⟨y, fun D => by rw [f3, if_neg h, hy]⟩
theorem own_c390 {D E : Hp} {o u : Nat} (h : ∀ j, rI D o 0 j = rI E u 0 j) (R n a b c d t : Int32) : (b0_390 D R n a b c d o t).map Prod.fst = (b0_390 E R n a b c d u t).map Prod.fst := by
  obtain ⟨x, hx⟩ := own_f3D D n a b c d 4
  rw [b0_390, b0_390, h, hx, hx]
  by_cases h1 : R < 4
  · rw [if_pos h1, if_pos h1]; simp only [Option.map_some]
  rw [if_neg h1, if_neg h1]
  by_cases h2 : t = 0
  · rw [if_pos h2, if_pos h2]; simp only [Option.map_some]
  rw [if_neg h2, if_neg h2]
  cases rI E u 0 4 with
  | none => simp only [Option.bind_none, Option.map_none]
  | some y =>
    simp only [Option.bind_some, own_letU]
    by_cases h3 : y = x
    · rw [if_pos h3, if_pos h3]; simp only [Option.map_some]
    · rw [if_neg h3, if_neg h3]; simp only [Option.map_some]
theorem own_c351 {D E : Hp} {o u : Nat} (h : ∀ j, rI D o 0 j = rI E u 0 j) (R n a b c d t : Int32) : (b0_351 D R n a b c d o t).map Prod.fst = (b0_351 E R n a b c d u t).map Prod.fst := by
  obtain ⟨x, hx⟩ := own_f3D D n a b c d 3
  rw [b0_351, b0_351, h, hx, hx]
  by_cases h1 : R < 3
  · rw [if_pos h1, if_pos h1]; exact own_c390 h R n a b c d t
  rw [if_neg h1, if_neg h1]
  by_cases h2 : t = 0
  · rw [if_pos h2, if_pos h2]; exact own_c390 h R n a b c d 0
  rw [if_neg h2, if_neg h2]
  cases rI E u 0 3 with
  | none => simp only [Option.bind_none, Option.map_none]
  | some y =>
    simp only [Option.bind_some, own_letU]
    by_cases h3 : y = x
    · rw [if_pos h3, if_pos h3]; exact own_c390 h R n a b c d 1
    · rw [if_neg h3, if_neg h3]; exact own_c390 h R n a b c d 0
theorem own_c312 {D E : Hp} {o u : Nat} (h : ∀ j, rI D o 0 j = rI E u 0 j) (R n a b c d t : Int32) : (b0_312 D R n a b c d o t).map Prod.fst = (b0_312 E R n a b c d u t).map Prod.fst := by
  obtain ⟨x, hx⟩ := own_f3D D n a b c d 2
  rw [b0_312, b0_312, h, hx, hx]
  by_cases h1 : R < 2
  · rw [if_pos h1, if_pos h1]; exact own_c351 h R n a b c d t
  rw [if_neg h1, if_neg h1]
  by_cases h2 : t = 0
  · rw [if_pos h2, if_pos h2]; exact own_c351 h R n a b c d 0
  rw [if_neg h2, if_neg h2]
  cases rI E u 0 2 with
  | none => simp only [Option.bind_none, Option.map_none]
  | some y =>
    simp only [Option.bind_some, own_letU]
    by_cases h3 : y = x
    · rw [if_pos h3, if_pos h3]; exact own_c351 h R n a b c d 1
    · rw [if_neg h3, if_neg h3]; exact own_c351 h R n a b c d 0
theorem own_c271 {D E : Hp} {o u : Nat} (h : ∀ j, rI D o 0 j = rI E u 0 j) (R n a b c d t : Int32) : (b0_271 D R n a b c d o t).map Prod.fst = (b0_271 E R n a b c d u t).map Prod.fst := by
  obtain ⟨x, hx⟩ := own_f3D D n a b c d 1
  rw [b0_271, b0_271, h, hx, hx]
  by_cases h1 : R < 1
  · rw [if_pos h1, if_pos h1]; exact own_c312 h R n a b c d t
  rw [if_neg h1, if_neg h1]
  by_cases h2 : t = 0
  · rw [if_pos h2, if_pos h2]; exact own_c312 h R n a b c d 0
  rw [if_neg h2, if_neg h2]
  cases rI E u 0 1 with
  | none => simp only [Option.bind_none, Option.map_none]
  | some y =>
    simp only [Option.bind_some, own_letU]
    by_cases h3 : y = x
    · rw [if_pos h3, if_pos h3]; exact own_c312 h R n a b c d 1
    · rw [if_neg h3, if_neg h3]; exact own_c312 h R n a b c d 0
def own_tl (q : Nat × Hp) (R n a b c d : Int32) : Option (Int32 × Hp) :=
  (lA q.2 q.1 0).bind fun x36 =>
  if x36 = (R + (1 : Int32)) then ((rI q.2 q.1 0 (0 : Int32)).bind fun x38 =>
  (f3 q.2 n a b c d (0 : Int32)).bind fun q39 => own_let q39.1 fun x40 => own_let q39.2 fun D39 =>
  if x38 = x40 then (b0_271 D39 R n a b c d q.1 (1 : Int32)) else (b0_271 D39 R n a b c d q.1 (0 : Int32))) else (some ((0 : Int32), q.2))
theorem own_tlc {D E : Hp} {o u : Nat} (h : D[o]? = E[u]?) (R n a b c d : Int32) : (own_tl (o, D) R n a b c d).map Prod.fst = (own_tl (u, E) R n a b c d).map Prod.fst := by
  have hr : ∀ j, rI D o 0 j = rI E u 0 j := fun j => by rw [rI, rI, rV, rV, h]
  have hl : lA D o 0 = lA E u 0 := by rw [lA, lA, h]
  obtain ⟨x, hx⟩ := own_f3D D n a b c d 0
  rw [own_tl, own_tl, hl, hr, hx, hx]
  cases lA E u 0 with
  | none => simp only [Option.bind_none, Option.map_none]
  | some l =>
    simp only [Option.bind_some]
    by_cases h1 : l = R + 1
    · rw [if_pos h1, if_pos h1]
      cases rI E u 0 0 with
      | none => simp only [Option.bind_none, Option.map_none]
      | some y =>
        simp only [Option.bind_some, own_letU]
        by_cases h3 : y = x
        · rw [if_pos h3, if_pos h3]; exact own_c271 hr R n a b c d 1
        · rw [if_neg h3, if_neg h3]; exact own_c271 hr R n a b c d 0
    · rw [if_neg h1, if_neg h1]; simp only [Option.map_some]
def own_g (q : Nat × Hp) : Nat × Option (Nat × List Value) := (q.1, q.2[q.1]?)
def own_key (K I : List Value) (j : Int32) : Option Int32 := (rI [(0, K), (0, I)] 1 0 j).bind fun x => rI [(0, K), (0, I)] 0 0 x
theorem own_l2 (K I K' I' : List Value) (R : Int32) : ∀ (fu : Nat) (S : List Value) (i : Int32),
    (b2_52 fu [(0, K), (0, I), (0, S)] R 2 i).map own_g = (b2_52 fu [(0, K'), (0, I'), (0, S)] R 2 i).map own_g := by
  intro fu
  induction fu with
  | zero => intro S i; rfl
  | succ fu ih =>
    intro S i
    rw [b2_52, b2_52]
    by_cases h : i < R
    · rw [if_pos h, if_pos h]
      rw [show rI [(0, K), (0, I), (0, S)] 2 0 = rI [(0, K'), (0, I'), (0, S)] 2 0 from rfl]
      cases rI [(0, K'), (0, I'), (0, S)] 2 0 (i + 1) with
      | none => simp only [Option.bind_none]
      | some x =>
        cases rI [(0, K'), (0, I'), (0, S)] 2 0 i with
        | none => simp only [Option.bind_none, Option.map_none]
        | some y =>
          simp only [Option.bind_some]
          have e : ∀ (K I : List Value), wV [(0, K), (0, I), (0, S)] 2 0 (i + 1) (.int (x + y)) = (if i + 1 < 0 then none else if (i + 1).toNatClampNeg < S.length then some [(0, K), (0, I), (0, S.set (i + 1).toNatClampNeg (.int (x + y)))] else none) := fun K I => rfl
          rw [e, e]
          by_cases h1 : i + 1 < 0
          · rw [if_pos h1, if_pos h1]
            try simp only [Option.bind_none, Option.map_none]
          rw [if_neg h1, if_neg h1]
          by_cases h2 : (i + 1).toNatClampNeg < S.length
          · rw [if_pos h2, if_pos h2]; simp only [Option.bind_some]; exact ih _ _
          · rw [if_neg h2, if_neg h2]
            try simp only [Option.bind_none, Option.map_none]
    · rw [if_neg h, if_neg h]; rfl
theorem own_l1 (K I K' I' : List Value) (R n : Int32) (hk : ∀ j, j < n → own_key K I j = own_key K' I' j) : ∀ (fu : Nat) (S : List Value) (i : Int32),
    (b2_17 fu [(0, K), (0, I), (0, S)] 0 R 2 1 n i).map own_g = (b2_17 fu [(0, K'), (0, I'), (0, S)] 0 R 2 1 n i).map own_g := by
  intro fu
  induction fu with
  | zero => intro S i; rfl
  | succ fu ih =>
    intro S i
    rw [b2_17, b2_17]
    by_cases h : i < n
    · rw [if_pos h, if_pos h]
      rw [← Option.bind_assoc, ← Option.bind_assoc]
      rw [show ((rI [(0, K), (0, I), (0, S)] 1 0 i).bind fun x => rI [(0, K), (0, I), (0, S)] 0 0 x) = own_key K I i from rfl,
        show ((rI [(0, K'), (0, I'), (0, S)] 1 0 i).bind fun x => rI [(0, K'), (0, I'), (0, S)] 0 0 x) = own_key K' I' i from rfl, hk i h]
      cases own_key K' I' i with
      | none => simp only [Option.bind_none, Option.map_none]
      | some k =>
        rw [Option.bind_some, Option.bind_some, show rI [(0, K), (0, I), (0, S)] 2 0 = rI [(0, K'), (0, I'), (0, S)] 2 0 from rfl]
        cases rI [(0, K'), (0, I'), (0, S)] 2 0 (k + 1) with
        | none => simp only [Option.bind_none, Option.map_none]
        | some x =>
          simp only [Option.bind_some]
          have e : ∀ (K I : List Value), wV [(0, K), (0, I), (0, S)] 2 0 (k + 1) (.int (x + 1)) = (if k + 1 < 0 then none else if (k + 1).toNatClampNeg < S.length then some [(0, K), (0, I), (0, S.set (k + 1).toNatClampNeg (.int (x + 1)))] else none) := fun K I => rfl
          rw [e, e]
          by_cases h1 : k + 1 < 0
          · rw [if_pos h1, if_pos h1]
            try simp only [Option.bind_none, Option.map_none]
          rw [if_neg h1, if_neg h1]
          by_cases h2 : (k + 1).toNatClampNeg < S.length
          · rw [if_pos h2, if_pos h2]; simp only [Option.bind_some]; exact ih _ _
          · rw [if_neg h2, if_neg h2]
            try simp only [Option.bind_none, Option.map_none]
    · rw [if_neg h, if_neg h]; exact own_l2 K I K' I' R 12 S 0
theorem own_f2c (K I K' I' : List Value) (R : Int32) (hl : I.length = I'.length) (hk : ∀ j, j < I.length.toInt32 → own_key K I j = own_key K' I' j) :
    (f2 [(0, K), (0, I)] 1 0 R).map own_g = (f2 [(0, K'), (0, I')] 1 0 R).map own_g := by
  rw [f2, f2, own_letU, own_letU]
  have e : ∀ (K I : List Value), nA [(0, K), (0, I)] 0 (R + 1) 8 (.int 0) = (if R + 1 < 0 then none else if (R + 1).toNatClampNeg ≤ 8 then some [(0, K), (0, I), (0, List.replicate (R + 1).toNatClampNeg (.int 0))] else none) := fun K I => rfl
  rw [e, e]
  by_cases h1 : R + 1 < 0
  · rw [if_pos h1, if_pos h1]
    try simp only [Option.bind_none, Option.map_none]
  rw [if_neg h1, if_neg h1]
  by_cases h2 : (R + 1).toNatClampNeg ≤ 8
  · rw [if_pos h2, if_pos h2, Option.bind_some, Option.bind_some,
      show ∀ (K I S : List Value), lA [(0, K), (0, I), (0, S)] 1 0 = some I.length.toInt32 from fun _ _ _ => rfl,
      show ∀ (K I S : List Value), lA [(0, K), (0, I), (0, S)] 1 0 = some I.length.toInt32 from fun _ _ _ => rfl, Option.bind_some, Option.bind_some, ← hl]
    exact own_l1 K I K' I' R _ hk 12 _ 0
  · rw [if_neg h2, if_neg h2]
    try simp only [Option.bind_none, Option.map_none]
def own_law (R n a b c d : Int32) (I : List Value) : Option Int32 := ((f2 [(0, [.int a, .int b, .int c, .int d]), (0, I)] 1 0 R).bind fun q => own_tl q R n a b c d).map Prod.fst
set_option maxRecDepth 100000 in
theorem own_closed1 : ∀ (n : Fin 5), own_law 1 n.1.toInt32 0 0 0 0 ([.int 0, .int 1, .int 2, .int 3].take n.1) = some 1 := by decide +kernel
set_option maxRecDepth 100000 in
theorem own_closed2 : ∀ (n : Fin 5) (a b c d : Fin 2), own_law 2 n.1.toInt32 a.1.toInt32 b.1.toInt32 c.1.toInt32 d.1.toInt32 ([.int 0, .int 1, .int 2, .int 3].take n.1) = some 1 := by decide +kernel
set_option maxRecDepth 100000 in
theorem own_closed3 : ∀ (n : Fin 5) (a b c d : Fin 3), own_law 3 n.1.toInt32 a.1.toInt32 b.1.toInt32 c.1.toInt32 d.1.toInt32 ([.int 0, .int 1, .int 2, .int 3].take n.1) = some 1 := by decide +kernel
set_option maxRecDepth 100000 in
theorem own_closed4 : ∀ (n : Fin 5) (a b c d : Fin 4), own_law 4 n.1.toInt32 a.1.toInt32 b.1.toInt32 c.1.toInt32 d.1.toInt32 ([.int 0, .int 1, .int 2, .int 3].take n.1) = some 1 := by decide +kernel
theorem own_5 : ∀ n : Fin 5, n = 0 ∨ n = 1 ∨ n = 2 ∨ n = 3 ∨ n = 4 := by decide
theorem own_4 : ∀ n : Fin 4, n = 0 ∨ n = 1 ∨ n = 2 ∨ n = 3 := by decide
theorem own_3 : ∀ n : Fin 3, n = 0 ∨ n = 1 ∨ n = 2 := by decide
theorem own_1 : ∀ n : Fin 1, n = 0 := by decide
theorem own_pick (v k0 k1 k2 : Int32) (hv : v = 0 ∨ v = 1 ∨ v = 2) : ∃ a, (a = k0 ∨ a = k1 ∨ a = k2) ∧ (∀ D, f1 D v k0 k1 k2 = some (a, D)) ∧ ∀ I, rI [(0, [.int k0, .int k1, .int k2]), (0, I)] 0 0 v = some a := by
  rcases hv with rfl | rfl | rfl
  · exact ⟨k0, .inl rfl, fun D => by rw [f1, if_pos rfl], fun I => rfl⟩
  · exact ⟨k1, .inr (.inl rfl), fun D => by rw [f1, if_neg (by decide), if_pos rfl], fun I => rfl⟩
  · exact ⟨k2, .inr (.inr rfl), fun D => by rw [f1, if_neg (by decide), if_neg (by decide)], fun I => rfl⟩
theorem own_keys (n : Fin 5) (v w x y a b c d k0 k1 k2 : Int32)
    (ha : ∀ I, rI [(0, [.int k0, .int k1, .int k2]), (0, I)] 0 0 v = some a) (hb : ∀ I, rI [(0, [.int k0, .int k1, .int k2]), (0, I)] 0 0 w = some b)
    (hc : ∀ I, rI [(0, [.int k0, .int k1, .int k2]), (0, I)] 0 0 x = some c) (hd : ∀ I, rI [(0, [.int k0, .int k1, .int k2]), (0, I)] 0 0 y = some d) :
    ∀ j, j < n.1.toInt32 → own_key [.int k0, .int k1, .int k2] ([.int v, .int w, .int x, .int y].take n.1) j = own_key [.int a, .int b, .int c, .int d] ([.int 0, .int 1, .int 2, .int 3].take n.1) j := by
  intro j hj
  by_cases h0 : j < 0
  · have e : ∀ (K I : List Value), rI [(0, K), (0, I)] 1 0 j = none := fun K I => by
      show (if j < 0 then none else I[j.toNatClampNeg]?).bind asI = none
      rw [if_pos h0]; rfl
    rw [own_key, own_key, e, e, Option.bind_none, Option.bind_none]
  · have hn : n.1.toInt32.toInt ≤ 4 := by
      obtain rfl | rfl | rfl | rfl | rfl := own_5 n
      all_goals decide
    have h1 := Int32.lt_iff_toInt_lt.mp hj
    have h2 : ¬ j.toInt < 0 := fun q => h0 (Int32.lt_iff_toInt_lt.mpr q)
    obtain ⟨p, rfl⟩ := own_fin j 4 (by omega) (by omega)
    clear h0 h1 h2 hn
    obtain rfl | rfl | rfl | rfl | rfl := own_5 n
    all_goals obtain rfl | rfl | rfl | rfl := own_4 p
    all_goals first
      | exact absurd hj (by decide)
      | exact ha _
      | exact hb _
      | exact hc _
      | exact hd _
theorem own_165 (K I : List Value) (R n k0 k1 k2 v w x y a b c d : Int32) (ha : ∀ D, f1 D v k0 k1 k2 = some (a, D)) (hb : ∀ D, f1 D w k0 k1 k2 = some (b, D)) (hc : ∀ D, f1 D x k0 k1 k2 = some (c, D)) (hd : ∀ D, f1 D y k0 k1 k2 = some (d, D)) :
    b0_165 [(0, K), (0, I)] R n k0 k1 k2 0 v w x y 1 = (f2 [(0, K), (0, I)] 1 0 R).bind fun q => own_tl q R n a b c d := by
  rw [b0_165, ha, Option.bind_some, own_letU, own_letU, hb, Option.bind_some, own_letU, own_letU, hc, Option.bind_some, own_letU, own_letU, hd, Option.bind_some, own_letU, own_letU]
  exact congrArg (Option.bind _) (funext fun q => by rw [own_letU, own_letU, own_tl])
theorem own_bindc (o u : Option (Nat × Hp)) (h : o.map own_g = u.map own_g) (R n a b c d : Int32) : (o.bind fun q => own_tl q R n a b c d).map Prod.fst = (u.bind fun q => own_tl q R n a b c d).map Prod.fst := by
  cases o with
  | none =>
    cases u with
    | none => simp only [Option.bind_none]
    | some q => cases h
  | some p =>
    cases u with
    | none => cases h
    | some q =>
      obtain ⟨p, D⟩ := p
      obtain ⟨q, E⟩ := q
      simp only [Option.map_some, own_g, Option.some.injEq, Prod.mk.injEq] at h
      rw [Option.bind_some, Option.bind_some]
      exact own_tlc h.2 R n a b c d
theorem own_mod3 (x : Int32) : ((x &&& (255 : Int32)) % (3 : Int32)) = 0 ∨ ((x &&& (255 : Int32)) % (3 : Int32)) = 1 ∨ ((x &&& (255 : Int32)) % (3 : Int32)) = 2 := by
  have e1 := c_and x (255 : Int32) (by decide)
  have e2 := (c_irem (x &&& (255 : Int32)) 3 3 (by decide)).1 e1.1
  have h1 : 0 ≤ ((x &&& (255 : Int32)) % (3 : Int32)).toInt := by rw [e2]; omega
  have h2 : ((x &&& (255 : Int32)) % (3 : Int32)).toInt < 3 := by rw [e2]; omega
  generalize (x &&& (255 : Int32)) % (3 : Int32) = z at h1 h2 ⊢
  obtain ⟨p, rfl⟩ := own_fin z 3 h1 h2
  clear h1 h2 e2 e1
  obtain rfl | rfl | rfl := own_3 p
  all_goals decide
theorem own_129 (n : Fin 5) (R k0 k1 k2 v w x y : Int32) (K : List Value) :
    ((nA [(0, K)] 0 n.1.toInt32 8 (.int (0 : Int32))).bind fun D17 =>
  if (0 : Int32) < n.1.toInt32 then ((wV D17 1 0 (0 : Int32) (.int v)).bind fun D19 =>
  b0_129 D19 R n.1.toInt32 k0 k1 k2 0 v w x y 1) else (b0_129 D17 R n.1.toInt32 k0 k1 k2 0 v w x y 1)) = b0_165 [(0, K), (0, [.int v, .int w, .int x, .int y].take n.1)] R n.1.toInt32 k0 k1 k2 0 v w x y 1 := by
  have e : ∀ m : Fin 5, nA [(0, K)] 0 m.1.toInt32 8 (.int (0 : Int32)) = some [(0, K), (0, List.replicate m.1 (.int 0))] := by
    intro m
    obtain rfl | rfl | rfl | rfl | rfl := own_5 m
    all_goals rfl
  rw [e, Option.bind_some]
  have f0' : ∀ (a : Value) (L : List Value), wV [(0, K), (0, a :: L)] 1 0 0 (.int v) = some [(0, K), (0, .int v :: L)] := fun a L => by
    have e : (0 : Int32).toNatClampNeg = 0 := rfl
    have e' : ¬ (0 : Int32) < 0 := by decide
    simp [wV, e, e']
  have f1' : ∀ (a b : Value) (L : List Value), wV [(0, K), (0, a :: b :: L)] 1 0 1 (.int w) = some [(0, K), (0, a :: .int w :: L)] := fun a b L => by
    have e : (1 : Int32).toNatClampNeg = 1 := rfl
    have e' : ¬ (1 : Int32) < 0 := by decide
    simp [wV, e, e']
  have f2' : ∀ (a b c : Value) (L : List Value), wV [(0, K), (0, a :: b :: c :: L)] 1 0 2 (.int x) = some [(0, K), (0, a :: b :: .int x :: L)] := fun a b c L => by
    have e : (2 : Int32).toNatClampNeg = 2 := rfl
    have e' : ¬ (2 : Int32) < 0 := by decide
    simp [wV, e, e']
  have f3' : ∀ (a b c d : Value) (L : List Value), wV [(0, K), (0, a :: b :: c :: d :: L)] 1 0 3 (.int y) = some [(0, K), (0, a :: b :: c :: .int y :: L)] := fun a b c d L => by
    have e : (3 : Int32).toNatClampNeg = 3 := rfl
    have e' : ¬ (3 : Int32) < 0 := by decide
    simp [wV, e, e']
  obtain rfl | rfl | rfl | rfl | rfl := own_5 n
  · rw [if_neg (by decide), b0_129, if_neg (by decide), b0_141, if_neg (by decide), b0_153, if_neg (by decide)]; rfl
  · rw [if_pos (by decide), show List.replicate (1 : Fin 5).1 (Value.int 0) = [.int 0] from rfl, f0', Option.bind_some, b0_129, if_neg (by decide), b0_141, if_neg (by decide), b0_153, if_neg (by decide)]; rfl
  · rw [if_pos (by decide), show List.replicate (2 : Fin 5).1 (Value.int 0) = [.int 0, .int 0] from rfl, f0', Option.bind_some, b0_129, if_pos (by decide), f1', Option.bind_some, b0_141, if_neg (by decide), b0_153, if_neg (by decide)]; rfl
  · rw [if_pos (by decide), show List.replicate (3 : Fin 5).1 (Value.int 0) = [.int 0, .int 0, .int 0] from rfl, f0', Option.bind_some, b0_129, if_pos (by decide), f1', Option.bind_some, b0_141, if_pos (by decide), f2', Option.bind_some, b0_153, if_neg (by decide)]; rfl
  · rw [if_pos (by decide), show List.replicate (4 : Fin 5).1 (Value.int 0) = [.int 0, .int 0, .int 0, .int 0] from rfl, f0', Option.bind_some, b0_129, if_pos (by decide), f1', Option.bind_some, b0_141, if_pos (by decide), f2', Option.bind_some, b0_153, if_pos (by decide), f3', Option.bind_some]; rfl
theorem own_cl (R : Fin 5) (h0 : 0 < R.1) (n : Fin 5) (a b c d : Int32) (ha : 0 ≤ a.toInt ∧ a.toInt < R.1) (hb : 0 ≤ b.toInt ∧ b.toInt < R.1) (hc : 0 ≤ c.toInt ∧ c.toInt < R.1) (hd : 0 ≤ d.toInt ∧ d.toInt < R.1) :
    own_law R.1.toInt32 n.1.toInt32 a b c d ([.int 0, .int 1, .int 2, .int 3].take n.1) = some 1 := by
  obtain ⟨a, rfl⟩ := own_fin a R.1 ha.1 ha.2
  obtain ⟨b, rfl⟩ := own_fin b R.1 hb.1 hb.2
  obtain ⟨c, rfl⟩ := own_fin c R.1 hc.1 hc.2
  obtain ⟨d, rfl⟩ := own_fin d R.1 hd.1 hd.2
  clear ha hb hc hd
  obtain rfl | rfl | rfl | rfl | rfl := own_5 R
  · exact absurd h0 (by decide)
  · obtain rfl := own_1 a; obtain rfl := own_1 b; obtain rfl := own_1 c; obtain rfl := own_1 d; exact own_closed1 n
  · exact own_closed2 n a b c d
  · exact own_closed3 n a b c d
  · exact own_closed4 n a b c d
theorem law_ok (i0 : Int32) (i1 : Int32) (i2 : Int32) (i3 : Int32) (i4 : Int32) (i5 : Int32) : ∃ D', f0 [] i0 i1 i2 i3 i4 i5 = some ((1 : Int32), D') := by
  obtain ⟨R, h0, hR⟩ : ∃ R : Fin 5, 0 < R.1 ∧ (1 : Int32) + (i0 &&& (3 : Int32)) = R.1.toInt32 := by
    have e := c_mask i0 3 2 (by decide) (by decide)
    have e0 : ((2 ^ 2 : Nat) : Int) = 4 := by decide
    rw [e0] at e
    obtain ⟨p, hp'⟩ := own_fin (i0 &&& 3) 4 (by omega) (by omega)
    rw [hp']
    obtain rfl | rfl | rfl | rfl := own_4 p
    · exact ⟨1, by decide, by decide⟩
    · exact ⟨2, by decide, by decide⟩
    · exact ⟨3, by decide, by decide⟩
    · exact ⟨4, by decide, by decide⟩
  have hRi : (R.1.toInt32).toInt = R.1 := by
    obtain rfl | rfl | rfl | rfl | rfl := own_5 R
    all_goals rfl
  have hRn : ¬ R.1.toInt32 = (0 : Int32) := fun q => by
    rw [q] at hRi; have : (0 : Int32).toInt = 0 := rfl; omega
  obtain ⟨n, hn⟩ : ∃ n : Fin 5, (i1 &&& (2147483647 : Int32)) % (5 : Int32) = n.1.toInt32 := by
    have e := own_modr i1 5 (by decide)
    have : (5 : Int32).toInt = 5 := rfl
    exact own_fin _ 5 e.1 (by omega)
  have r0 := own_modr i3 R.1.toInt32 (by omega)
  have r1 := own_modr i4 R.1.toInt32 (by omega)
  have r2 := own_modr i5 R.1.toInt32 (by omega)
  have s0 := own_mod3 i2
  have s1 := own_mod3 ((i2.toUInt32 >>> ((8 : Int32) &&& 31).toUInt32).toInt32)
  have s2 := own_mod3 ((i2.toUInt32 >>> ((16 : Int32) &&& 31).toUInt32).toInt32)
  have s3 := own_mod3 ((i2.toUInt32 >>> ((24 : Int32) &&& 31).toUInt32).toInt32)
  rw [hRi] at r0 r1 r2
  apply own_ex
  rw [f0, own_letU, hR, own_letU, hn, if_neg hRn, own_letU, if_neg hRn, own_letU, if_neg hRn, own_letU]
  generalize (i3 &&& (2147483647 : Int32)) % R.1.toInt32 = k0 at r0 ⊢
  generalize (i4 &&& (2147483647 : Int32)) % R.1.toInt32 = k1 at r1 ⊢
  generalize (i5 &&& (2147483647 : Int32)) % R.1.toInt32 = k2 at r2 ⊢
  rw [show (List.length ([] : Hp)) = 0 from rfl, own_letU, show nA [] 0 (3 : Int32) 3 (.int (0 : Int32)) = some [(0, [.int 0, .int 0, .int 0])] from rfl, Option.bind_some,
    show wV [(0, [.int 0, .int 0, .int 0])] 0 0 (0 : Int32) (.int k0) = some [(0, [.int k0, .int 0, .int 0])] from rfl, Option.bind_some,
    show wV [(0, [.int k0, .int 0, .int 0])] 0 0 (1 : Int32) (.int k1) = some [(0, [.int k0, .int k1, .int 0])] from rfl, Option.bind_some,
    show wV [(0, [.int k0, .int k1, .int 0])] 0 0 (2 : Int32) (.int k2) = some [(0, [.int k0, .int k1, .int k2])] from rfl, Option.bind_some, own_letU, own_letU, own_letU, own_letU]
  generalize (i2 &&& (255 : Int32)) % (3 : Int32) = v at s0 ⊢
  generalize (((i2.toUInt32 >>> ((8 : Int32) &&& 31).toUInt32).toInt32) &&& (255 : Int32)) % (3 : Int32) = w at s1 ⊢
  generalize (((i2.toUInt32 >>> ((16 : Int32) &&& 31).toUInt32).toInt32) &&& (255 : Int32)) % (3 : Int32) = x at s2 ⊢
  generalize (((i2.toUInt32 >>> ((24 : Int32) &&& 31).toUInt32).toInt32) &&& (255 : Int32)) % (3 : Int32) = y at s3 ⊢
  rw [show (List.length [(0, [Value.int k0, .int k1, .int k2])]) = 1 from rfl, own_letU, own_129]
  obtain ⟨a, a1, a2, a3⟩ := own_pick v k0 k1 k2 s0
  obtain ⟨b, b1, b2, b3⟩ := own_pick w k0 k1 k2 s1
  obtain ⟨c, c1, c2, c3⟩ := own_pick x k0 k1 k2 s2
  obtain ⟨d, d1, d2, d3⟩ := own_pick y k0 k1 k2 s3
  rw [own_165 _ _ _ _ _ _ _ _ _ _ _ a b c d a2 b2 c2 d2]
  have hl : ([Value.int v, .int w, .int x, .int y].take n.1).length = ([Value.int 0, .int 1, .int 2, .int 3].take n.1).length := by
    rw [List.length_take, List.length_take]; rfl
  have hl2 : ([Value.int v, .int w, .int x, .int y].take n.1).length = n.1 := by
    rw [List.length_take]; show min n.1 4 = n.1; omega
  have hk := own_keys n v w x y a b c d k0 k1 k2 a3 b3 c3 d3
  rw [own_bindc _ _ (own_f2c _ _ [.int a, .int b, .int c, .int d] ([Value.int 0, .int 1, .int 2, .int 3].take n.1) R.1.toInt32 hl (by rw [hl2]; exact hk))]
  have ok : ∀ z, (z = k0 ∨ z = k1 ∨ z = k2) → 0 ≤ z.toInt ∧ z.toInt < R.1 := fun z hz => by
    rcases hz with rfl | rfl | rfl
    · exact r0
    · exact r1
    · exact r2
  exact own_cl R h0 n a b c d (ok a a1) (ok b b1) (ok c c1) (ok d d1)
set_option maxRecDepth 65536 in
set_option maxHeartbeats 40000000 in
theorem comes_1 {Post : Tables → Env → Array Value → State → Outcome → State → Prop} (hpost : ∀ tb e args s v u, (limb_1_1.after args s (.returned v) u = true ∧ limb_1_2.after args s (.returned v) u = true ∧ True) → FrameEnd s (.returned v) u (Jvm.fieldLocs frame_1_writes args s ++ Jvm.arrayLocs frame_1_arrays args s ++ Jvm.staticLocs frame_1_statics s) 16 128 → Post tb e args s (.returned v) u) :
    ArmFor flags0 classFile x code maxLocals ret World_1 tables_1 room_1 Calls_1 rest_1 Pre_1 Post := by
  intro l hfl _ _ p e ha hc hk s m args below hf hA hF happ hP
  obtain ⟨hcalls, hrest, hpre⟩ := hP
  obtain ⟨-, -, -, hnamed, -, -, -, hat⟩ := (Spec.applies_iff hf).mp happ
  obtain ⟨hg, hn⟩ := and_e (Cond.before_iff.mp (show (Jvm.Cond.and given_1 narrow_1).before args s = true from hpre))
  obtain ⟨g0, hg⟩ := and_e hg
  obtain ⟨gg0, hg⟩ := and_e hg
  obtain ⟨gg1, hg⟩ := and_e hg
  obtain ⟨gg2, hg⟩ := and_e hg
  obtain ⟨gg3, hg⟩ := and_e hg
  obtain ⟨gg4, hg⟩ := and_e hg
  have gg5 := hg
  obtain ⟨w0, w1, w2, w3, w4, w5, rfl⟩ : ∃ w0 w1 w2 w3 w4 w5 : Value, args = #[w0, w1, w2, w3, w4, w5] := by
    have hs : args.size = 6 := by simpa [Cond.value, given_1] using g0
    obtain ⟨L⟩ := args
    match L, hs with
    | [w0, w1, w2, w3, w4, w5], _ => exact ⟨w0, w1, w2, w3, w4, w5, rfl⟩
  have hw := fun d (hd : d ∈ tables_1) => atoms_spec (ws := Jvm.Cond.code x code maxLocals ret :: tables_1) hat d (List.mem_cons_of_mem _ hd)
  obtain ⟨i0, ei0⟩ := is_v gg0
  obtain rfl : w0 = (.int i0) := Option.some.inj ei0
  obtain ⟨i1, ei1⟩ := is_v gg1
  obtain rfl : w1 = (.int i1) := Option.some.inj ei1
  obtain ⟨i2, ei2⟩ := is_v gg2
  obtain rfl : w2 = (.int i2) := Option.some.inj ei2
  obtain ⟨i3, ei3⟩ := is_v gg3
  obtain rfl : w3 = (.int i3) := Option.some.inj ei3
  obtain ⟨i4, ei4⟩ := is_v gg4
  obtain rfl : w4 = (.int i4) := Option.some.inj ei4
  obtain ⟨i5, ei5⟩ := is_v gg5
  obtain rfl : w5 = (.int i5) := Option.some.inj ei5
  obtain ⟨D', hlaw⟩ := law_ok i0 i1 i2 i3 i4 i5
  obtain ⟨n, o, h1, h2, h3, _, L, rfl, ⟨rfl, N, -⟩, hq⟩ := ct0 (l := l) hw hlaw s.heap tables_1 (own_ow0 s.heap) p e ha hc hk s m _ below hf ((Spec.applies_iff_loose hf).mp happ).1 ⟨rfl, State.Warmed39.refl s, rfl⟩ trivial
  exact ⟨n, _, h1, h2, h3, hpost _ _ _ _ _ _ ⟨Cond.after_iff.mpr rfl, Cond.after_iff.mpr (eq_i res_at (Term.int_eval (1)) rfl), trivial⟩ ⟨hq.1, hq.2.1, (hq.2.2.sift fun y hy => Or.inr (N y hy)).mono (by decide) (by decide)⟩⟩
theorem main_1_1 : Claimed_1_1 := comes_1 fun _ _ _ _ _ _ h hF => ⟨h.1, hF⟩
theorem main_1_2 : Claimed_1_2 := comes_1 fun _ _ _ _ _ _ h hF => ⟨h.2.1, hF⟩
end Jvm.Pilot.@@N@@
namespace Jvm.Pilot.@@N@@
open Jvm Jvm.ClassFile Sem Op Lib Jvm.Free Jvm.Stand Jvm.Pilot.@@N@@.Jvm.D
/-! MADE BY PROGRAM (witnessworld.py) out of the Statement's table words and the real class files: 9 classes; the members and pool entries that the words name. The judged class is class 1, her method 1. -/
namespace start1
open Jvm.ClassFile
def u (s : String) : CpInfo := .utf8 (stringToUtf16 s)
/-- a pool by its gaps: so many unusable entries, then the entry; so many at the end -/
def gap : Nat → List CpInfo → List CpInfo
  | 0, r => r
  | n + 1, r => .unusable :: gap n r
def poolList (es : List (Nat × CpInfo)) (last : Nat) : List CpInfo := es.foldr (fun e r => gap e.1 (e.2 :: r)) (gap last [])
def pool (es : List (Nat × CpInfo)) (last : Nat) : Array CpInfo := ⟨poolList es last⟩
def fileOf (pool : Array CpInfo) (this : Nat) (attrs : Array Attribute := #[]) (ms : Array MethodInfo := #[]) (fl : Nat := 33) (sup : Nat := 0) (ifs : Array Nat := #[]) (fds : Array FieldInfo := #[]) : ClassFile where
  minorVersion := 0
  majorVersion := 65
  constantPool := pool
  accessFlags := fl
  thisClass := this
  superClass := sup
  interfaces := ifs
  fields := fds
  methods := ms
  attributes := attrs
def plain (name : String) (sup : Option ClassId) : Class where
  name := name
  kind := .ordinary
  loader := none
  accessFlags := 33
  super := sup
  interfaces := #[]
  cf := none
  fields := #[]
  methods := #[]
  instanceTypes := #[]
  staticTypes := #[]
  resolved := #[]
  callSites := []
  init := .initialized
  statics := none
  mirror := none

def pool0 : Array CpInfo := pool [(5, u "<init>"), (0, u "()V"), (1, .class_ 10), (1, u "java/lang/Object")] 113

def k0m0 : Method := { name := "<init>", desc := "()V", sig := { parameters := [], returnType := none }, accessFlags := 1, code := none }
/-- java/lang/Object -/
def k0 : Class := { plain "java/lang/Object" none with
  accessFlags := 33
  interfaces := #[]
  cf := some (fileOf pool0 8 #[] #[{ accessFlags := 1, nameIndex := 5, descriptorIndex := 6, attributes := #[] }] 33 0 #[] #[])
  fields := #[]
  methods := #[k0m0]
  instanceTypes := #[]
  staticTypes := #[]
  resolved := Array.replicate 124 none
  statics := none }

def pool1 : Array CpInfo := pool [(2, .class_ 4), (1, u "java/lang/Object"), (0, u "<init>"), (0, u "()V"), (0, .integer 2147483647), (0, .methodref 9 10), (0, .class_ 11), (0, .nameAndType 12 13), (0, u "com/example/planar_drawing_kit/planardrawingkit/decomposition/CountingStartsPinLaw"), (0, u "keyOf"), (0, u "(IIII)I"), (0, .methodref 15 16), (0, .class_ 17), (0, .nameAndType 18 19), (0, u "com/example/planar_drawing_kit/planardrawingkit/decomposition/Counting"), (0, u "starts"), (0, u "([I[II)[I"), (0, .methodref 9 21), (0, .nameAndType 22 23), (0, u "below"), (0, u "(IIIIII)I"), (2, u "law"), (0, u "(IIIIII)Z")] 5

def k1m0 : Method := { name := "<init>", desc := "()V", sig := { parameters := [], returnType := none }, accessFlags := 2, code := none }
def k1c1 : Code := { maxStack := 7, maxLocals := 23, code := code, exceptionTable := #[], attributes := #[] }
def k1m1 : Method := { name := "law", desc := "(IIIIII)Z", sig := { parameters := [.int, .int, .int, .int, .int, .int], returnType := some .boolean }, accessFlags := 9, code := some k1c1 }
def k1c2 : Code := { maxStack := 2, maxLocals := 4, code := method_3_code, exceptionTable := #[], attributes := #[] }
def k1m2 : Method := { name := "keyOf", desc := "(IIII)I", sig := { parameters := [.int, .int, .int, .int], returnType := some .int }, accessFlags := 10, code := some k1c2 }
def k1c3 : Code := { maxStack := 2, maxLocals := 7, code := method_4_code, exceptionTable := #[], attributes := #[] }
def k1m3 : Method := { name := "below", desc := "(IIIIII)I", sig := { parameters := [.int, .int, .int, .int, .int, .int], returnType := some .int }, accessFlags := 10, code := some k1c3 }
/-- com/example/planar_drawing_kit/planardrawingkit/decomposition/CountingStartsPinLaw -/
def k1 : Class := { plain "com/example/planar_drawing_kit/planardrawingkit/decomposition/CountingStartsPinLaw" (some 0) with
  accessFlags := 49
  interfaces := #[]
  cf := some (fileOf pool1 9 #[] #[{ accessFlags := 2, nameIndex := 5, descriptorIndex := 6, attributes := #[] }, { accessFlags := 9, nameIndex := 26, descriptorIndex := 27, attributes := #[] }, { accessFlags := 10, nameIndex := 12, descriptorIndex := 13, attributes := #[] }, { accessFlags := 10, nameIndex := 22, descriptorIndex := 23, attributes := #[] }] 49 2 #[] #[])
  fields := #[]
  methods := #[k1m0, k1m1, k1m2, k1m3]
  instanceTypes := #[]
  staticTypes := #[]
  resolved := Array.replicate 33 none
  statics := none }

def pool2 : Array CpInfo := pool [(2, .class_ 4), (1, u "java/lang/Object"), (0, u "<init>"), (0, u "()V"), (1, .class_ 10), (1, u "com/example/planar_drawing_kit/planardrawingkit/decomposition/Counting"), (0, u "starts"), (0, u "([I[II)[I")] 10

def k2m0 : Method := { name := "<init>", desc := "()V", sig := { parameters := [], returnType := none }, accessFlags := 2, code := none }
def k2c1 : Code := { maxStack := 5, maxLocals := 8, code := prog_45_method_3_code, exceptionTable := #[], attributes := #[] }
def k2m1 : Method := { name := "starts", desc := "([I[II)[I", sig := { parameters := [(.array .int), (.array .int), .int], returnType := some (.array .int) }, accessFlags := 8, code := some k2c1 }
/-- com/example/planar_drawing_kit/planardrawingkit/decomposition/Counting -/
def k2 : Class := { plain "com/example/planar_drawing_kit/planardrawingkit/decomposition/Counting" (some 0) with
  accessFlags := 32
  interfaces := #[]
  cf := some (fileOf pool2 8 #[] #[{ accessFlags := 2, nameIndex := 5, descriptorIndex := 6, attributes := #[] }, { accessFlags := 8, nameIndex := 11, descriptorIndex := 12, attributes := #[] }] 32 2 #[] #[])
  fields := #[]
  methods := #[k2m0, k2m1]
  instanceTypes := #[]
  staticTypes := #[]
  resolved := Array.replicate 23 none
  statics := none }

def pool3 : Array CpInfo := pool [(1, u "java/lang/Cloneable"), (0, .class_ 1), (0, u "java/lang/Object"), (0, .class_ 3)] 3

/-- java/lang/Cloneable -/
def k3 : Class := { plain "java/lang/Cloneable" (some 0) with
  accessFlags := 1537
  interfaces := #[]
  cf := some (fileOf pool3 2 #[] #[] 1537 4 #[] #[])
  fields := #[]
  methods := #[]
  instanceTypes := #[]
  staticTypes := #[]
  resolved := Array.replicate 8 none
  statics := none }

def pool4 : Array CpInfo := pool [(1, u "java/io/Serializable"), (0, .class_ 1), (0, u "java/lang/Object"), (0, .class_ 3)] 3

/-- java/io/Serializable -/
def k4 : Class := { plain "java/io/Serializable" (some 0) with
  accessFlags := 1537
  interfaces := #[]
  cf := some (fileOf pool4 2 #[] #[] 1537 4 #[] #[])
  fields := #[]
  methods := #[]
  instanceTypes := #[]
  staticTypes := #[]
  resolved := Array.replicate 8 none
  statics := none }

/-- the primitive byte -/
def k5 : Class := { plain "byte" none with kind := .primitive 'B', accessFlags := 0x411 }
/-- [B -/
def k6 : Class := { plain "[B" (some 0) with kind := .array 5 .byte, interfaces := #[3, 4], accessFlags := 1041 }

/-- the primitive int -/
def k7 : Class := { plain "int" none with kind := .primitive 'I', accessFlags := 0x411 }
/-- [I -/
def k8 : Class := { plain "[I" (some 0) with kind := .array 7 .int, interfaces := #[3, 4], accessFlags := 1041 }

def heap : Heap := #[]
def classes : Array Class := #[k0, k1, k2, k3, k4, k5, k6, k7, k8]
def interned : List (Array UInt16 × Addr) := []
def slotsUsed : Nat := 0
def theMethod : MethodId := ⟨1, 1⟩
def args0 : Array Value := #[.int 5, .int 9, .int 66051, .int 7, .int 3, .int 2]
def aboutOver (below : List Frame) : State where
  vm := { classes := classes, interned := interned.toArray }
  heap := heap
  slotsUsed := slotsUsed
  threads := #[{ frames := .invoking theMethod args0 :: below }]
def below0 : List Frame := [.native { method := ⟨0, 0⟩, args := #[] }]
def about1 : State := aboutOver below0
def p0 : Program := .bare "" "" ""
def e0 : Env := launch0.env 0 0 0
theorem w_frames : about1.frames = Frame.invoking theMethod args0 :: below0 := rfl
set_option maxRecDepth 65536 in
theorem w_args : argsFit about1.vm theMethod args0 = true := by decide +kernel
set_option maxRecDepth 65536 in
theorem w_heap : heapFits about1 = true := by decide +kernel
set_option maxRecDepth 65536 in
theorem w_runnable : about1.curStatus? = some .runnable := by decide +kernel
set_option maxRecDepth 65536 in
theorem w_alone : about1.alone = true := by decide +kernel
set_option maxRecDepth 65536 in
theorem w_named : about1.methodNamed? x = some theMethod := by decide +kernel
set_option maxRecDepth 65536 in
theorem w_hears : about1.hears theMethod below0 = true := by decide +kernel
set_option maxRecDepth 65536 in
theorem w_ripe : about1.ripe theMethod args0 below0 = true := by decide +kernel
theorem w_running : about1.status = .running := rfl
set_option maxRecDepth 65536 in
theorem w_room : about1.hasRoom e0.platform room_1 = true :=
  launch0.hasRoom_least _ room_1 (by decide +kernel) (by decide +kernel) (by decide +kernel) (by decide +kernel) (by decide +kernel) (by decide +kernel)
theorem allAtoms_all (ts : List Jvm.Cond) (a : Array Jvm.Value) (st : Jvm.State) : (allAtoms ts).before a st = ts.all (fun c => c.before a st) := by
  induction ts with
  | nil => rfl
  | cons c t ih =>
    show (Jvm.Cond.and c (allAtoms t)).before a st = _
    rw [Jvm.Cond.before_and, ih, List.all_cons]
def words1 : List Jvm.Cond := Jvm.Cond.code x code maxLocals ret :: tables_1
/-- a 'code' word, met by the world's own term for the bytes: nothing is compared byte by byte -/
theorem code_word {y : MethodName} {bytes : ByteArray} {mx : Nat} {rt : Option FieldType} {a : Array Value} {s : State} {m : MethodId} {meth : Method} {c : Code} (h1 : s.methodNamed? y = some m) (h2 : s.vm.method? m = some meth) (h3 : meth.code = some c) (h4 : c.code = bytes)
    (h5 : (c.maxLocals == mx && c.exceptionTable.isEmpty && decide (c.maxStack ≤ mostOperands) && decide (meth.sig.returnType = rt) && !meth.locks && decide (parseMethodDescriptor y.desc = some meth.sig)) = true) : (Jvm.Cond.code y bytes mx rt).before a s = true := by
  simp only [Bool.and_eq_true, beq_iff_eq, Bool.not_eq_true', decide_eq_true_eq] at h5
  obtain ⟨⟨⟨⟨⟨g1, g2⟩, g3⟩, g4⟩, g5⟩, g6⟩ := h5
  simp [Cond.before, Cond.holds, Cond.value, h1, h2, h3, h4, g1, g2, g3, g4, g5, g6]
def isCode : Jvm.Cond → Bool
  | .code _ _ _ _ => true
  | _ => false
theorem all_split {L : List Jvm.Cond} {P : Jvm.Cond → Bool} (h1 : L.all (fun c => isCode c || P c) = true) (h2 : ∀ c ∈ L.filter isCode, P c = true) : L.all P = true := by
  refine List.all_eq_true.mpr fun c hc => ?_
  have h := List.all_eq_true.mp h1 c hc
  rcases Bool.eq_false_or_eq_true (isCode c) with hi | hi
  · exact h2 c (List.mem_filter.mpr ⟨hc, hi⟩)
  · simpa [hi] using h
set_option maxRecDepth 65536 in
theorem w_c0 : (Jvm.Cond.code x code maxLocals ret).before args0 about1 = true := code_word (m := ⟨1, 1⟩) (meth := k1m1) (c := k1c1) (by decide +kernel) rfl rfl rfl (by decide +kernel)
set_option maxRecDepth 65536 in
theorem w_c1 : (Jvm.Cond.code ({ cls := "com/example/planar_drawing_kit/planardrawingkit/decomposition/CountingStartsPinLaw", name := "keyOf", desc := "(IIII)I" } : Jvm.MethodName) method_3_code (4 : Nat) (Option.some Jvm.ClassFile.FieldType.int)).before args0 about1 = true := code_word (m := ⟨1, 2⟩) (meth := k1m2) (c := k1c2) (by decide +kernel) rfl rfl rfl (by decide +kernel)
set_option maxRecDepth 65536 in
theorem w_c2 : (Jvm.Cond.code ({ cls := "com/example/planar_drawing_kit/planardrawingkit/decomposition/Counting", name := "starts", desc := "([I[II)[I" } : Jvm.MethodName) prog_45_method_3_code (8 : Nat) (Option.some (Jvm.ClassFile.FieldType.array Jvm.ClassFile.FieldType.int))).before args0 about1 = true := code_word (m := ⟨2, 1⟩) (meth := k2m1) (c := k2c1) (by decide +kernel) rfl rfl rfl (by decide +kernel)
set_option maxRecDepth 65536 in
theorem w_c3 : (Jvm.Cond.code ({ cls := "com/example/planar_drawing_kit/planardrawingkit/decomposition/CountingStartsPinLaw", name := "below", desc := "(IIIIII)I" } : Jvm.MethodName) method_4_code (7 : Nat) (Option.some Jvm.ClassFile.FieldType.int)).before args0 about1 = true := code_word (m := ⟨1, 3⟩) (meth := k1m3) (c := k1c3) (by decide +kernel) rfl rfl rfl (by decide +kernel)
def codes1 : List Jvm.Cond := [Jvm.Cond.code x code maxLocals ret, Jvm.Cond.code ({ cls := "com/example/planar_drawing_kit/planardrawingkit/decomposition/CountingStartsPinLaw", name := "keyOf", desc := "(IIII)I" } : Jvm.MethodName) method_3_code (4 : Nat) (Option.some Jvm.ClassFile.FieldType.int), Jvm.Cond.code ({ cls := "com/example/planar_drawing_kit/planardrawingkit/decomposition/Counting", name := "starts", desc := "([I[II)[I" } : Jvm.MethodName) prog_45_method_3_code (8 : Nat) (Option.some (Jvm.ClassFile.FieldType.array Jvm.ClassFile.FieldType.int)), Jvm.Cond.code ({ cls := "com/example/planar_drawing_kit/planardrawingkit/decomposition/CountingStartsPinLaw", name := "below", desc := "(IIIIII)I" } : Jvm.MethodName) method_4_code (7 : Nat) (Option.some Jvm.ClassFile.FieldType.int)]
set_option maxRecDepth 65536 in
theorem codes_eq : words1.filter isCode = codes1 := rfl
theorem w_codes : ∀ c ∈ words1.filter isCode, c.before args0 about1 = true := by
  rw [codes_eq]
  intro c hc
  simp only [codes1, List.mem_cons, List.not_mem_nil, or_false] at hc
  rcases hc with rfl | rfl | rfl | rfl
  · exact w_c0
  · exact w_c1
  · exact w_c2
  · exact w_c3
set_option maxRecDepth 65536 in
theorem w_t1 : words1.all (fun c => isCode c || c.before args0 about1) = true := by decide +kernel
theorem w_tables : (allAtoms (Jvm.Cond.code x code maxLocals ret :: tables_1)).before args0 about1 = true := by
  rw [allAtoms_all]
  show words1.all (fun c => c.before args0 about1) = true
  refine all_split ?_ w_codes
  rw [w_t1]
set_option maxRecDepth 65536 in
theorem w_case : (Jvm.Cond.and given_1 narrow_1).before args0 about1 = true := by decide +kernel
theorem w_applies : (headSpec (Jvm.Cond.code x code maxLocals ret :: tables_1) room_1).applies x e0.platform about1 = true :=
  (Spec.applies_iff w_frames).mpr ⟨w_running, w_runnable, w_alone, w_named, w_hears, w_ripe, w_room, w_tables⟩
theorem atStart : AtStart classFile x code maxLocals ret World_1 tables_1 room_1 Calls_1 rest_1 Pre_1 launch0 p0 e0 about1 theMethod args0 below0 :=
  ⟨lists_1, trivial, launch0.admits_env _ _ _, launch0.least_env, fairChoices_fair.cas, fairChoices_fair.clock, w_frames, w_args, w_heap, w_applies, trivial, trivial, w_case⟩
end start1
theorem witness_1 : WitnessClaimed_1 := ⟨start1.p0, start1.e0, start1.about1, start1.theMethod, start1.args0, start1.below0, start1.atStart⟩
end Jvm.Pilot.@@N@@
