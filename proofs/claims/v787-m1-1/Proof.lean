import JvmDerived
import JvmDerived.Pilot.@@N@@Statement
import JvmDerived.Pilot.@@N@@Code
set_option linter.unusedVariables false
set_option linter.unusedSimpArgs false

namespace Jvm.Pilot.@@N@@
open Jvm Jvm.ClassFile Sem Op Lib Jvm.Free Jvm.Stand Jvm.LawKit Jvm.RoadKit Bundle Jvm.Pilot.@@N@@.Jvm.D
/-! 1. the goal of a walk, and its steps -/
section OwnGoal
variable {p : Program} {l : Launch} {e : Env} {R : Room} {s : State} {m : MethodId} {args : Array Value} {below : List Frame} {meth : Method} {c : Code} {T : State} {locs : List Loc} {cells slots : Nat}
/-- from the state S the body returns, P holds of what it leaves, and the frame is kept -/
def Gl (p : Program) (e : Env) (below : List Frame) (s : State) (kc ks : Nat) (P : Option Value → Heap → List Loc → Prop) (S : State) : Prop :=
  ∃ t o, Steps p.tables e below S t ∧ t.status = .running ∧ Ended t below o ∧ ∃ v L, o = .returned v ∧ P v t.heap L ∧ FrameEnd s o t L kc ks
variable {kc ks : Nat} {P : Option Value → Heap → List Loc → Prop}
theorem Gl.on {A B : State} (h : ∀ t, Steps p.tables e below B t → Steps p.tables e below A t) (k : Gl p e below s kc ks P B) : Gl p e below s kc ks P A := by
  obtain ⟨t, o, h1, h2⟩ := k
  exact ⟨t, o, h t h1, h2⟩
theorem own_to {tb : Tables} {A B t : State} (q : A = B) (k : Steps tb e below B t) : Steps tb e below A t := q ▸ k
theorem Gl.out (X : Stand p l e R s m args below meth c T locs cells slots) (hx : p.tables.exec = Jvm.exec) (hlk : meth.locks = false) {pc : Nat} {Ls : Array Slot} {w : Value} {t : FieldType} {i : Instr} {rest : List Value} (hret : meth.sig.returnType = some t) (hn : narrow t w = w)
    (hi : (i = .ireturn ∧ (t = .int ∨ t = .boolean ∨ t = .byte ∨ t = .char ∨ t = .short) ∧ ∃ z, w = .int z) ∨ (i = .lreturn ∧ t = .long ∧ ∃ z, w = .long z) ∨ (i = .dreturn ∧ t = .double ∧ ∃ z, w = .double z) ∨ (i = .freturn ∧ t = .float ∧ ∃ z, w = .float z) ∨ (i = .areturn ∧ t.isReference = true ∧ w.isRef = true))
    (hd : decode c.code pc = .ok (i, 1)) (hP : P (some w) T.heap locs) (hc : cells ≤ kc) (hs : slots ≤ ks) : Gl p e below s kc ks P (T.setTop (mkF m pc Ls (w :: rest))) := by
  obtain ⟨fs, hr, hrun, hended, hW, hsame⟩ := X.leave (v := some w) (fun h => by rw [hret] at h; cases h) hlk
  exact ⟨_, _, retOut X hx hret hn hi hd hr, hrun, hended, _, _, rfl, hP, ⟨_, rfl⟩, hW, hsame.mono hc hs⟩
theorem Gl.outI (X : Stand p l e R s m args below meth c T locs cells slots) (hx : p.tables.exec = Jvm.exec) (hlk : meth.locks = false) {pc : Nat} {Ls : Array Slot} {z : Int32} {rest : List Value} (hret : meth.sig.returnType = some .int)
    (hd : decode c.code pc = .ok (.ireturn, 1)) (hP : P (some (.int z)) T.heap locs) (hc : cells ≤ kc) (hs : slots ≤ ks) : Gl p e below s kc ks P (T.setTop (mkF m pc Ls (.int z :: rest))) :=
  Gl.out X hx hlk hret rfl (Or.inl ⟨rfl, Or.inl rfl, z, rfl⟩) hd hP hc hs
theorem Gl.outJ (X : Stand p l e R s m args below meth c T locs cells slots) (hx : p.tables.exec = Jvm.exec) (hlk : meth.locks = false) {pc : Nat} {Ls : Array Slot} {z : Int64} {rest : List Value} (hret : meth.sig.returnType = some .long)
    (hd : decode c.code pc = .ok (.lreturn, 1)) (hP : P (some (.long z)) T.heap locs) (hc : cells ≤ kc) (hs : slots ≤ ks) : Gl p e below s kc ks P (T.setTop (mkF m pc Ls (.long z :: rest))) :=
  Gl.out X hx hlk hret rfl (Or.inr (Or.inl ⟨rfl, rfl, z, rfl⟩)) hd hP hc hs
theorem Gl.outR (X : Stand p l e R s m args below meth c T locs cells slots) (hx : p.tables.exec = Jvm.exec) (hlk : meth.locks = false) {pc : Nat} {Ls : Array Slot} {a : Addr} {t : FieldType} {rest : List Value} (hret : meth.sig.returnType = some t) (ht : t.isReference = true)
    (hd : decode c.code pc = .ok (.areturn, 1)) (hP : P (some (.ref a)) T.heap locs) (hc : cells ≤ kc) (hs : slots ≤ ks) : Gl p e below s kc ks P (T.setTop (mkF m pc Ls (.ref a :: rest))) :=
  Gl.out X hx hlk hret (by cases t <;> first | rfl | cases ht) (Or.inr (Or.inr (Or.inr (Or.inr ⟨rfl, ht, rfl⟩)))) hd hP hc hs
theorem Gl.outN (X : Stand p l e R s m args below meth c T locs cells slots) (hx : p.tables.exec = Jvm.exec) (hlk : meth.locks = false) {pc : Nat} {Ls : Array Slot} {z : Int32} {t : FieldType} {rest : List Value} (hret : meth.sig.returnType = some t) (ht : t = .boolean ∨ t = .byte ∨ t = .char ∨ t = .short)
    (hd : decode c.code pc = .ok (.ireturn, 1)) (hP : P (some (.int (nar t z))) T.heap locs) (hc : cells ≤ kc) (hs : slots ≤ ks) : Gl p e below s kc ks P (T.setTop (mkF m pc Ls (.int z :: rest))) := by
  obtain ⟨fs, hr, hrun, hended, hW, hsame⟩ := X.leave (v := some (.int (nar t z))) (fun h => by rw [hret] at h; cases h) hlk
  exact ⟨_, _, retN X hx hret ht hd hr, hrun, hended, _, _, rfl, hP, ⟨_, rfl⟩, hW, hsame.mono hc hs⟩
theorem Gl.outV (X : Stand p l e R s m args below meth c T locs cells slots) (hx : p.tables.exec = Jvm.exec) (hlk : meth.locks = false) {pc : Nat} {Ls : Array Slot} (hret : meth.sig.returnType = none)
    (hd : decode c.code pc = .ok (.return_, 1)) (hP : P none T.heap locs) (hc : cells ≤ kc) (hs : slots ≤ ks) : Gl p e below s kc ks P (T.setTop (mkF m pc Ls [])) := by
  obtain ⟨fs, hr, hrun, hended, hW, hsame⟩ := X.leave (v := none) (fun _ => rfl) hlk
  exact ⟨_, _, X.returnOut hx hret hd hr, hrun, hended, _, _, rfl, hP, ⟨_, rfl⟩, hW, hsame.mono hc hs⟩
end OwnGoal
/-- two slots: both empty, or a long -/
def Two (a b : Slot) : Prop := (a = .unset ∧ b = .unset) ∨ ∃ z : Int64, a = .val (.long z) ∧ b = .second
theorem own_inj {α β : Type} {a b : α} {c d : β} (h : some (a, c) = some (b, d)) : a = b ∧ c = d := by cases h; exact ⟨rfl, rfl⟩
theorem own_inj1 {α : Type} {a b : α} (h : some a = some b) : a = b := by cases h; rfl
def own_let {α β : Type} (a : α) (f : α → β) : β := f a
theorem own_letE {α β : Type} {a : α} {f : α → β} {b : β} (h : own_let a f = b) : ∃ x, a = x ∧ f x = b := ⟨a, rfl, h⟩
theorem own_bind {α β : Type} {o : Option α} {f : α → Option β} {b : β} (h : o.bind f = some b) : ∃ x, o = some x ∧ f x = some b := by
  cases o with
  | none => cases h
  | some x => exact ⟨x, rfl, h⟩
/-! 2. what the law has made: a list of objects, each with its kind and its values; a reference is a place in that list -/
abbrev Hp := List (Nat × List Value)
abbrev Kt := Nat → FieldType × List (String × String)
def sh (n0 : Nat) : Value → Value
  | .ref k => .ref (n0 + k)
  | v => v
def gV (D : Hp) (a t i : Nat) : Option Value := (D[a]?).bind fun ob => if ob.1 = t then ob.2[i]? else none
def asI : Value → Option Int32
  | .int x => some x
  | _ => none
def asJ : Value → Option Int64
  | .long x => some x
  | _ => none
def asR : Value → Option Nat
  | .ref x => some x
  | _ => none
def gI (D : Hp) (a t i : Nat) : Option Int32 := (gV D a t i).bind asI
def gJ (D : Hp) (a t i : Nat) : Option Int64 := (gV D a t i).bind asJ
def gR (D : Hp) (a t i : Nat) : Option Nat := (gV D a t i).bind asR
def ck (D : Hp) (a t : Nat) : Option Nat := (D[a]?).bind fun ob => if ob.1 = t then some t else none
def pV (D : Hp) (a t i : Nat) (v : Value) : Option Hp := (D[a]?).bind fun ob => if ob.1 = t then (if i < ob.2.length then some (D.set a (t, ob.2.set i v)) else none) else none
def rV (D : Hp) (a t : Nat) (j : Int32) : Option Value := (D[a]?).bind fun ob => if ob.1 = t then (if j < 0 then none else ob.2[j.toNatClampNeg]?) else none
def rI (D : Hp) (a t : Nat) (j : Int32) : Option Int32 := (rV D a t j).bind asI
def rJ (D : Hp) (a t : Nat) (j : Int32) : Option Int64 := (rV D a t j).bind asJ
def wV (D : Hp) (a t : Nat) (j : Int32) (v : Value) : Option Hp := (D[a]?).bind fun ob => if ob.1 = t then (if j < 0 then none else if j.toNatClampNeg < ob.2.length then some (D.set a (t, ob.2.set j.toNatClampNeg v)) else none) else none
def lA (D : Hp) (a t : Nat) : Option Int32 := (D[a]?).bind fun ob => if ob.1 = t then some ob.2.length.toInt32 else none
def nA (D : Hp) (t : Nat) (n : Int32) (cap : Nat) (z : Value) : Option Hp := if n < 0 then none else if n.toNatClampNeg ≤ cap then some (D ++ [(t, List.replicate n.toNatClampNeg z)]) else none
def cA' (D : Hp) (a t cap : Nat) : Option Hp := (D[a]?).bind fun ob => if ob.1 = t then (if ob.2.length ≤ cap then some (D ++ [(t, ob.2)]) else none) else none
def Ob1 (K : Kt) (Z : State) (h : Heap) (n0 a t : Nat) (vs : List Value) : Prop :=
  (∀ ty, (K t).1 = .array ty → Exa Z h a ("[" ++ ty.toString) ∧ ∃ c : Cell, Arr Z h a c ty ∧ c.slots = (vs.map (sh n0)).toArray ∧ vs.length < 2 ^ 31 ∧ ∀ v ∈ vs, fits ty v = true) ∧
  (∀ C, (K t).1 = .object C → Exa Z h a C ∧ ∀ (i : Nat) (f d : String), (K t).2[i]? = some (f, d) → ∃ v : Value, vs[i]? = some v ∧ Fld Z h a C f d (sh n0 v))
def Ow (K : Kt) (Z : State) (h : Heap) (n0 : Nat) (D : Hp) : Prop := h.size = n0 + D.length ∧ ∀ (k t : Nat) (vs : List Value), D[k]? = some (t, vs) → Ob1 K Z h n0 (n0 + k) t vs
def Lay (K : Kt) (Z : State) (a0 : Array Value) : Prop := ∀ t C, (K t).1 = .object C → (∀ q ∈ (K t).2, Laid Z a0 C C q.1 q.2 ∧ ∃ ty, parseFieldDescriptor q.2 = some ty) ∧ ((K t).2.map Prod.fst).Nodup
section OwnHeap
variable {K : Kt} {Z : State} {h h' : Heap} {n0 : Nat} {D D' : Hp} {a t i : Nat} {v : Value} {j : Int32} {C f d : String} {ty : FieldType}
theorem gV_e (hg : gV D a t i = some v) : ∃ vs, D[a]? = some (t, vs) ∧ vs[i]? = some v := by
  obtain ⟨⟨t', vs⟩, h1, h2⟩ := own_bind hg
  by_cases q : t' = t
  · subst q; rw [if_pos rfl] at h2; exact ⟨vs, h1, h2⟩
  · rw [if_neg q] at h2; cases h2
theorem gI_e {x : Int32} (hg : gI D a t i = some x) : gV D a t i = some (.int x) := by
  obtain ⟨w, h1, h2⟩ := own_bind hg
  cases w <;> cases h2; exact h1
theorem gJ_e {x : Int64} (hg : gJ D a t i = some x) : gV D a t i = some (.long x) := by
  obtain ⟨w, h1, h2⟩ := own_bind hg
  cases w <;> cases h2; exact h1
theorem gR_e {x : Nat} (hg : gR D a t i = some x) : gV D a t i = some (.ref x) := by
  obtain ⟨w, h1, h2⟩ := own_bind hg
  cases w <;> cases h2; exact h1
theorem ck_e {q : Nat} (hg : ck D a t = some q) : ∃ vs, D[a]? = some (t, vs) := by
  obtain ⟨⟨t', vs⟩, h1, h2⟩ := own_bind hg
  by_cases q : t' = t
  · subst q; exact ⟨vs, h1⟩
  · rw [if_neg q] at h2; cases h2
theorem rV_e (hg : rV D a t j = some v) : ∃ vs, D[a]? = some (t, vs) ∧ ¬ j < 0 ∧ vs[j.toNatClampNeg]? = some v := by
  obtain ⟨⟨t', vs⟩, h1, h2⟩ := own_bind hg
  by_cases q : t' = t
  · subst q; rw [if_pos rfl] at h2
    by_cases r : j < 0
    · rw [if_pos r] at h2; cases h2
    · rw [if_neg r] at h2; exact ⟨vs, h1, r, h2⟩
  · rw [if_neg q] at h2; cases h2
theorem rI_e {x : Int32} (hg : rI D a t j = some x) : rV D a t j = some (.int x) := by
  obtain ⟨w, h1, h2⟩ := own_bind hg
  cases w <;> cases h2; exact h1
theorem rJ_e {x : Int64} (hg : rJ D a t j = some x) : rV D a t j = some (.long x) := by
  obtain ⟨w, h1, h2⟩ := own_bind hg
  cases w <;> cases h2; exact h1
theorem wV_e (hg : wV D a t j v = some D') : ∃ vs, D[a]? = some (t, vs) ∧ ¬ j < 0 ∧ j.toNatClampNeg < vs.length ∧ D' = D.set a (t, vs.set j.toNatClampNeg v) := by
  obtain ⟨⟨t', vs⟩, h1, h2⟩ := own_bind hg
  by_cases q : t' = t
  · subst q; rw [if_pos rfl] at h2
    by_cases r : j < 0
    · rw [if_pos r] at h2; cases h2
    · rw [if_neg r] at h2
      by_cases u : j.toNatClampNeg < vs.length
      · rw [if_pos u] at h2; cases h2; exact ⟨vs, h1, r, u, rfl⟩
      · rw [if_neg u] at h2; cases h2
  · rw [if_neg q] at h2; cases h2
theorem pV_e (hg : pV D a t i v = some D') : ∃ vs, D[a]? = some (t, vs) ∧ i < vs.length ∧ D' = D.set a (t, vs.set i v) := by
  obtain ⟨⟨t', vs⟩, h1, h2⟩ := own_bind hg
  by_cases q : t' = t
  · subst q; rw [if_pos rfl] at h2
    by_cases u : i < vs.length
    · rw [if_pos u] at h2; cases h2; exact ⟨vs, h1, u, rfl⟩
    · rw [if_neg u] at h2; cases h2
  · rw [if_neg q] at h2; cases h2
theorem cA_e {cap : Nat} (hg : cA' D a t cap = some D') : ∃ vs, D[a]? = some (t, vs) ∧ vs.length ≤ cap ∧ D' = D ++ [(t, vs)] := by
  obtain ⟨⟨t', vs⟩, h1, h2⟩ := own_bind hg
  by_cases q : t' = t
  · subst q; rw [if_pos rfl] at h2
    by_cases u : vs.length ≤ cap
    · rw [if_pos u] at h2; cases h2; exact ⟨vs, h1, u, rfl⟩
    · rw [if_neg u] at h2; cases h2
  · rw [if_neg q] at h2; cases h2
theorem lA_e {x : Int32} (hg : lA D a t = some x) : ∃ vs, D[a]? = some (t, vs) ∧ x = vs.length.toInt32 := by
  obtain ⟨⟨t', vs⟩, h1, h2⟩ := own_bind hg
  by_cases q : t' = t
  · subst q; rw [if_pos rfl] at h2; cases h2; exact ⟨vs, h1, rfl⟩
  · rw [if_neg q] at h2; cases h2
theorem Ow.fld (O : Ow K Z h n0 D) (hg : gV D a t i = some v) (hK : (K t).1 = .object C) (hf : (K t).2[i]? = some (f, d)) : Fld Z h (n0 + a) C f d (sh n0 v) := by
  obtain ⟨vs, h1, h2⟩ := gV_e hg
  obtain ⟨w, h3, h4⟩ := ((O.2 a t vs h1).2 C hK).2 i f d hf
  cases h2.symm.trans h3; exact h4
theorem Ow.fld0 (O : Ow K Z h n0 D) (hg : pV D a t i v = some D') (hK : (K t).1 = .object C) (hf : (K t).2[i]? = some (f, d)) : ∃ w, Fld Z h (n0 + a) C f d w := by
  obtain ⟨vs, h1, h2, -⟩ := pV_e hg
  obtain ⟨w, h3, h4⟩ := ((O.2 a t vs h1).2 C hK).2 i f d hf
  exact ⟨_, h4⟩
theorem Ow.exa (O : Ow K Z h n0 D) {vs : List Value} (hg : D[a]? = some (t, vs)) (hK : (K t).1 = .object C) : Exa Z h (n0 + a) C := ((O.2 a t vs hg).2 C hK).1
theorem Ow.exaC (O : Ow K Z h n0 D) {q : Nat} (hg : ck D a t = some q) (hK : (K t).1 = .object C) : Exa Z h (n0 + a) C := by
  obtain ⟨vs, h1⟩ := ck_e hg; exact O.exa h1 hK
theorem Ow.exaP (O : Ow K Z h n0 D) (hg : pV D a t i v = some D') (hK : (K t).1 = .object C) : Exa Z h (n0 + a) C := by
  obtain ⟨vs, h1, -⟩ := pV_e hg; exact O.exa h1 hK
theorem sh_len (vs : List Value) : ((vs.map (sh n0)).toArray).size = vs.length := by simp
/-- the array at a, its cell, that the place j lies in it and what it holds -/
theorem Ow.arrR (O : Ow K Z h n0 D) (hg : rV D a t j = some v) (hK : (K t).1 = .array ty) : ∃ c : Cell, Arr Z h (n0 + a) c ty ∧ ¬ (j < 0 ∨ c.slots.size ≤ j.toNatClampNeg) ∧ c.slots[j.toNatClampNeg]? = some (sh n0 v) := by
  obtain ⟨vs, h1, h2, h3⟩ := rV_e hg
  obtain ⟨-, c, A, hs, -, -⟩ := (O.2 a t vs h1).1 ty hK
  have hlt := (List.getElem?_eq_some_iff.mp h3).1
  refine ⟨c, A, ?_, ?_⟩
  · rw [hs, sh_len]; intro q; rcases q with q | q
    · exact h2 q
    · omega
  · rw [hs]; simp [h3]
theorem Ow.arrL (O : Ow K Z h n0 D) {x : Int32} (hg : lA D a t = some x) (hK : (K t).1 = .array ty) : ∃ c : Cell, Arr Z h (n0 + a) c ty ∧ c.slots.size.toInt32 = x := by
  obtain ⟨vs, h1, h2⟩ := lA_e hg
  obtain ⟨-, c, A, hs, -, -⟩ := (O.2 a t vs h1).1 ty hK
  exact ⟨c, A, by rw [hs, sh_len, h2]⟩
theorem Ow.arrW (O : Ow K Z h n0 D) (hg : wV D a t j v = some D') (hK : (K t).1 = .array ty) : ∃ c : Cell, Arr Z h (n0 + a) c ty ∧ ¬ (j < 0 ∨ c.slots.size ≤ j.toNatClampNeg) := by
  obtain ⟨vs, h1, h2, h3, -⟩ := wV_e hg
  obtain ⟨-, c, A, hs, -, -⟩ := (O.2 a t vs h1).1 ty hK
  refine ⟨c, A, ?_⟩
  rw [hs, sh_len]; intro q; rcases q with q | q
  · exact h2 q
  · omega
theorem own_get_set {k : Nat} {ob ob' : Nat × List Value} (hk : (D.set a ob)[k]? = some ob') : (k = a ∧ ob' = ob ∧ a < D.length) ∨ (k ≠ a ∧ D[k]? = some ob') := by
  by_cases q : k = a
  · subst q
    rw [List.getElem?_set] at hk
    simp only [if_true] at hk
    by_cases r : k < D.length
    · rw [if_pos r] at hk; cases hk; exact Or.inl ⟨rfl, rfl, r⟩
    · rw [if_neg r] at hk; cases hk
  · rw [List.getElem?_set_ne (Ne.symm q)] at hk; exact Or.inr ⟨q, hk⟩
theorem Ob1.other {x y k : Nat} {vs : List Value} {w : Value} {sl : Nat} (B : Ob1 K Z h n0 x k vs) (W : Wr h h' y sl w) (hne : x ≠ y) : Ob1 K Z h' n0 x k vs := by
  refine ⟨fun ty hK => ?_, fun C hK => ?_⟩
  · obtain ⟨E, c, A, r⟩ := B.1 ty hK
    exact ⟨E.wr W, c, A.other W hne, r⟩
  · obtain ⟨E, F⟩ := B.2 C hK
    refine ⟨E.wr W, fun i f d hi => ?_⟩
    obtain ⟨v, h1, h2⟩ := F i f d hi
    exact ⟨v, h1, h2.other W (Or.inl hne)⟩
theorem Ow.st (O : Ow K Z h n0 D) (hg : wV D a t j v = some D') (hK : (K t).1 = .array ty) (hfit : fits ty v = true) (W : Wr h h' (n0 + a) j.toNatClampNeg (sh n0 v)) : Ow K Z h' n0 D' := by
  obtain ⟨vs, h1, h2, h3, rfl⟩ := wV_e hg
  refine ⟨by rw [W.size, O.1, List.length_set], fun k t' vs' hk => ?_⟩
  rcases own_get_set hk with ⟨rfl, e, -⟩ | ⟨hne, hk'⟩
  · cases e
    refine ⟨fun ty' hK' => ?_, fun C hK' => ?_⟩
    · cases hK.symm.trans hK'
      obtain ⟨E, c, A, hs, hl, hf⟩ := (O.2 _ _ vs h1).1 _ hK
      refine ⟨E.wr W, _, A.same W, ?_, by rw [List.length_set]; exact hl, fun w hw => ?_⟩
      · simp only [Cell.setSlot, hs]
        rw [List.map_set]
        simp
      · rcases List.mem_or_eq_of_mem_set hw with q | q
        · exact hf w q
        · rw [q]; exact hfit
    · rw [hK] at hK'; cases hK'
  · exact (O.2 k t' vs' hk').other W (by omega)
theorem Ow.put {a0 : Array Value} (O : Ow K Z h n0 D) (hL : Lay K Z a0) (hg : pV D a t i v = some D') (hK : (K t).1 = .object C) (hf : (K t).2[i]? = some (f, d)) (W : Wr h h' (n0 + a) (Jvm.RoadKit.slotOf Z C f d) (sh n0 v)) : Ow K Z h' n0 D' := by
  obtain ⟨vs, h1, h3, rfl⟩ := pV_e hg
  refine ⟨by rw [W.size, O.1, List.length_set], fun k t' vs' hk => ?_⟩
  rcases own_get_set hk with ⟨rfl, e, -⟩ | ⟨hne, hk'⟩
  · cases e
    refine ⟨fun ty' hK' => (by rw [hK] at hK'; cases hK'), fun C' hK' => ?_⟩
    cases hK.symm.trans hK'
    obtain ⟨E, F⟩ := (O.2 _ _ vs h1).2 _ hK
    refine ⟨E.wr W, fun i' f' d' hi' => ?_⟩
    obtain ⟨w, g1, g2⟩ := F i' f' d' hi'
    by_cases q : i' = i
    · subst q
      cases hf.symm.trans hi'
      exact ⟨v, by rw [List.getElem?_set]; simp [h3], g2.same W⟩
    · refine ⟨w, by rw [List.getElem?_set_ne (Ne.symm q)]; exact g1, g2.other W (Or.inr ?_)⟩
      obtain ⟨hl, hn⟩ := hL t C hK
      obtain ⟨l1, ty1, p1⟩ := hl _ (List.mem_of_getElem? hf)
      obtain ⟨l2, ty2, p2⟩ := hl _ (List.mem_of_getElem? hi')
      refine slot_ne l2 l1 (fun e => q ?_) p2 p1
      have m1 : ((K t).2.map Prod.fst)[i]? = some f := by rw [List.getElem?_map, hf]; rfl
      have m2 : ((K t).2.map Prod.fst)[i']? = some f' := by rw [List.getElem?_map, hi']; rfl
      obtain ⟨b1, c1⟩ := List.getElem?_eq_some_iff.mp m1
      obtain ⟨b2, c2⟩ := List.getElem?_eq_some_iff.mp m2
      exact (List.getElem_inj hn).mp (by rw [c1, c2]; exact e)
  · exact (O.2 k t' vs' hk').other W (by omega)
theorem Ob1.ext {x k : Nat} {vs : List Value} (B : Ob1 K Z h n0 x k vs) (E : Ext h h') : Ob1 K Z h' n0 x k vs := by
  refine ⟨fun ty hK => ?_, fun C hK => ?_⟩
  · obtain ⟨F, c, A, r⟩ := B.1 ty hK
    exact ⟨F.ext E, c, A.ext E, r⟩
  · obtain ⟨X, F⟩ := B.2 C hK
    refine ⟨X.ext E, fun i f d hi => ?_⟩
    obtain ⟨v, h1, h2⟩ := F i f d hi
    exact ⟨v, h1, h2.ext E⟩
theorem Ow.push {vs : List Value} (O : Ow K Z h n0 D) (E : Ext h h') (hsz : h'.size = h.size + 1) (B : Ob1 K Z h' n0 (n0 + D.length) t vs) : Ow K Z h' n0 (D ++ [(t, vs)]) := by
  refine ⟨by rw [hsz, O.1, List.length_append]; rfl, fun k t' vs' hk => ?_⟩
  by_cases q : k < D.length
  · rw [List.getElem?_append_left q] at hk; exact (O.2 k t' vs' hk).ext E
  · rw [List.getElem?_append_right (Nat.le_of_not_lt q)] at hk
    have e : k - D.length = 0 := by
      have := (List.getElem?_eq_some_iff.mp hk).1
      simp only [List.length_singleton] at this; omega
    rw [e] at hk
    have hk2 : (t, vs) = (t', vs') := Option.some.inj hk
    cases hk2
    have : k = D.length := by omega
    rw [this]; exact B
theorem sh_default (ty : FieldType) : sh n0 (defaultValue ty) = defaultValue ty := by cases ty <;> rfl
theorem own_ow0 (h : Heap) : Ow K Z h h.size [] := ⟨by simp, fun k t vs hk => by simp at hk⟩
end OwnHeap
/-! 3. the laws of the library, over that list -/
section OwnLaws
variable {p : Program} {l : Launch} {e : Env} {R : Room} {s : State} {m : MethodId} {args : Array Value} {below : List Frame} {meth : Method} {c : Code} {T : State} {locs : List Loc} {cells slots : Nat} {Z : State} {a0 : Array Value} {h : Heap} {K : Kt} {n0 : Nat} {D D' : Hp} {a t : Nat}
theorem ldW (X : Stand p l e R s m args below meth c T locs cells slots) (hx : p.tables.exec = Jvm.exec) (hZ : Z.Warmed39 s.vm) (eT : T.heap = h) (O : Ow K Z h n0 D) {j : Int32} {x : Int32} (hg : rI D a t j = some x) (hK : (K t).1 = .array .int)
    {g : JFrame} (hgm : g.method = m) {rest : List Value} (hs : g.stack = .int j :: .ref (n0 + a) :: rest) (hd : decode c.code g.pc = .ok (.iaload, 1)) (target : State)
    (hr : Steps p.tables e below (T.setTop { g with pc := g.pc + 1, stack := .int x :: rest }) target) : Steps p.tables e below (T.setTop g) target := by
  obtain ⟨cl, A, hin, hat⟩ := O.arrR (rI_e hg) hK
  exact X.iaload hx (v := .int x) (by rw [eT]; exact A.1) (State.isArrayOf_alike hZ.alike A.2.1) A.2.2 hin hat hgm hs hd target hr
theorem ldB (X : Stand p l e R s m args below meth c T locs cells slots) (hx : p.tables.exec = Jvm.exec) (hZ : Z.Warmed39 s.vm) (eT : T.heap = h) (O : Ow K Z h n0 D) {j : Int32} {x : Int32} (hg : rI D a t j = some x) (hK : (K t).1 = .array .byte)
    {g : JFrame} (hgm : g.method = m) {rest : List Value} (hs : g.stack = .int j :: .ref (n0 + a) :: rest) (hd : decode c.code g.pc = .ok (.baload, 1)) (target : State)
    (hr : Steps p.tables e below (T.setTop { g with pc := g.pc + 1, stack := .int x :: rest }) target) : Steps p.tables e below (T.setTop g) target := by
  obtain ⟨cl, A, hin, hat⟩ := O.arrR (rI_e hg) hK
  exact X.baloadBytes hx (v := .int x) (by rw [eT]; exact A.1) (State.isArrayOf_alike hZ.alike A.2.1) A.2.2 hin hat hgm hs hd target hr
theorem ldJ (X : Stand p l e R s m args below meth c T locs cells slots) (hx : p.tables.exec = Jvm.exec) (hZ : Z.Warmed39 s.vm) (eT : T.heap = h) (O : Ow K Z h n0 D) {j : Int32} {x : Int64} (hg : rJ D a t j = some x) (hK : (K t).1 = .array .long)
    {g : JFrame} (hgm : g.method = m) {rest : List Value} (hs : g.stack = .int j :: .ref (n0 + a) :: rest) (hd : decode c.code g.pc = .ok (.laload, 1)) (target : State)
    (hr : Steps p.tables e below (T.setTop { g with pc := g.pc + 1, stack := .long x :: rest }) target) : Steps p.tables e below (T.setTop g) target := by
  obtain ⟨cl, A, hin, hat⟩ := O.arrR (rJ_e hg) hK
  exact X.laload hx (v := .long x) (by rw [eT]; exact A.1) (State.isArrayOf_alike hZ.alike A.2.1) A.2.2 hin hat hgm hs hd target hr
theorem lenW' (X : Stand p l e R s m args below meth c T locs cells slots) (hx : p.tables.exec = Jvm.exec) (hZ : Z.Warmed39 s.vm) (eT : T.heap = h) (O : Ow K Z h n0 D) {x : Int32} (hg : lA D a t = some x) {ty : FieldType} (hK : (K t).1 = .array ty)
    {g : JFrame} (hgm : g.method = m) {rest : List Value} (hs : g.stack = .ref (n0 + a) :: rest) (hd : decode c.code g.pc = .ok (.arraylength, 1)) (target : State)
    (hr : Steps p.tables e below (T.setTop { g with pc := g.pc + 1, stack := .int x :: rest }) target) : Steps p.tables e below (T.setTop g) target := by
  obtain ⟨cl, A, hl⟩ := O.arrL hg hK
  subst hl
  exact X.arraylength hx (by rw [eT]; exact A.1) (State.isArrayOf_alike hZ.alike A.2.1) hgm hs hd target hr
theorem stIW (X : Stand p l e R s m args below meth c T locs cells slots) (hx : p.tables.exec = Jvm.exec) (hZ : Z.Warmed39 s.vm) (eT : T.heap = h) (O : Ow K Z h n0 D) (N : Fr n0 locs) {j x : Int32} (hg : wV D a t j (.int x) = some D') (hK : (K t).1 = .array .int)
    {g : JFrame} (hgm : g.method = m) {rest : List Value} (hs : g.stack = .int x :: .int j :: .ref (n0 + a) :: rest) (hd : decode c.code g.pc = .ok (.iastore, 1)) :
    ∃ T' h' L, Stand p l e R s m args below meth c T' L cells slots ∧ T'.heap = h' ∧ Ow K Z h' n0 D' ∧ Fr n0 L ∧ ∀ target, Steps p.tables e below (T'.setTop { g with pc := g.pc + 1, stack := rest }) target → Steps p.tables e below (T.setTop g) target := by
  obtain ⟨cl, A, hin⟩ := O.arrW hg hK
  obtain ⟨T', h', X', e', W, st⟩ := stI X hx hZ eT A hin hgm hs hd
  exact ⟨T', h', _, X', e', O.st hg hK rfl W, Fr.snoc X' N (Nat.le_add_right _ _), st⟩
theorem stBW (X : Stand p l e R s m args below meth c T locs cells slots) (hx : p.tables.exec = Jvm.exec) (hZ : Z.Warmed39 s.vm) (eT : T.heap = h) (O : Ow K Z h n0 D) (N : Fr n0 locs) {j x : Int32} (hg : wV D a t j (.int x.toInt8.toInt32) = some D') (hK : (K t).1 = .array .byte)
    {g : JFrame} (hgm : g.method = m) {rest : List Value} (hs : g.stack = .int x :: .int j :: .ref (n0 + a) :: rest) (hd : decode c.code g.pc = .ok (.bastore, 1)) :
    ∃ T' h' L, Stand p l e R s m args below meth c T' L cells slots ∧ T'.heap = h' ∧ Ow K Z h' n0 D' ∧ Fr n0 L ∧ ∀ target, Steps p.tables e below (T'.setTop { g with pc := g.pc + 1, stack := rest }) target → Steps p.tables e below (T.setTop g) target := by
  obtain ⟨cl, A, hin⟩ := O.arrW hg hK
  obtain ⟨T', h', X', e', W, st⟩ := stB X hx hZ eT A hin hgm hs hd
  exact ⟨T', h', _, X', e', O.st hg hK (fits_nar_byte _) W, Fr.snoc X' N (Nat.le_add_right _ _), st⟩
theorem stJW (X : Stand p l e R s m args below meth c T locs cells slots) (hx : p.tables.exec = Jvm.exec) (hZ : Z.Warmed39 s.vm) (eT : T.heap = h) (O : Ow K Z h n0 D) (N : Fr n0 locs) {j : Int32} {x : Int64} (hg : wV D a t j (.long x) = some D') (hK : (K t).1 = .array .long)
    {g : JFrame} (hgm : g.method = m) {rest : List Value} (hs : g.stack = .long x :: .int j :: .ref (n0 + a) :: rest) (hd : decode c.code g.pc = .ok (.lastore, 1)) :
    ∃ T' h' L, Stand p l e R s m args below meth c T' L cells slots ∧ T'.heap = h' ∧ Ow K Z h' n0 D' ∧ Fr n0 L ∧ ∀ target, Steps p.tables e below (T'.setTop { g with pc := g.pc + 1, stack := rest }) target → Steps p.tables e below (T.setTop g) target := by
  obtain ⟨cl, A, hin⟩ := O.arrW hg hK
  obtain ⟨T', h', X', e', W, st⟩ := stJ X hx hZ eT A hin hgm hs hd
  exact ⟨T', h', _, X', e', O.st hg hK rfl W, Fr.snoc X' N (Nat.le_add_right _ _), st⟩
theorem putW (X : Stand p l e R s m args below meth c T locs cells slots) (hx : p.tables.exec = Jvm.exec) (hZ : Z.Warmed39 s.vm) {own C f d : String} {index kk i : Nat} {ty : FieldType} (hown : s.vm.findClass own = some m.cls) (w : (Cond.fieldLink own index C f d).before a0 Z = true) (hL : Lay K Z a0)
    (eT : T.heap = h) (O : Ow K Z h n0 D) (N : Fr n0 locs) {v : Value} (hg : pV D a t i v = some D') (hK : (K t).1 = .object C) (hf : (K t).2[i]? = some (f, d)) (L : (Cond.lays C C f d).before a0 Z = true ∨ ((Cond.laysFinal C C f d).before a0 Z = true ∧ own = C ∧ meth.name = "<init>")) (wi : (Cond.instantiable C kk).before a0 Z = true)
    (hty : parseFieldDescriptor d = some ty) (hn : narrow ty (sh n0 v) = sh n0 v) (hfit : fits ty (sh n0 v) = true) {g : JFrame} (hgm : g.method = m) {rest : List Value} (hs : g.stack = sh n0 v :: .ref (n0 + a) :: rest) (hd : decode c.code g.pc = .ok (.putfield index, 3)) :
    ∃ T' h' L, Stand p l e R s m args below meth c T' L cells slots ∧ T'.heap = h' ∧ Ow K Z h' n0 D' ∧ Fr n0 L ∧ ∀ target, Steps p.tables e below (T'.setTop { g with pc := g.pc + 3, stack := rest }) target → Steps p.tables e below (T.setTop g) target := by
  obtain ⟨old, F⟩ := O.fld0 hg hK hf
  obtain ⟨T', h', X', e', W, st⟩ := putF X hx hZ hown (host := "") (Or.inl w) Via.refl eT F (O.exaP hg hK) L wi hty hn hfit hgm hs hd
  exact ⟨T', h', _, X', e', O.put hL hg hK hf W, Fr.snoc X' N (Nat.le_add_right _ _), st⟩
theorem newW (X : Stand p l e R s m args below meth c T locs cells slots) (hx : p.tables.exec = Jvm.exec) (hZ : Z.Warmed39 s.vm) {own C : String} {index n : Nat} (hown : s.vm.findClass own = some m.cls) (w : (Cond.classLink own index C).before a0 Z = true) (wi : (Cond.instantiable C n).before a0 Z = true) (wz : (Cond.initialized C).before a0 Z = true) (hL : Lay K Z a0) (eT : T.heap = h) (O : Ow K Z h n0 D)
    (hK : (K t).1 = .object C) {ds : List Value} (hds : ∀ q ∈ (K t).2.zipIdx, ∃ ty, parseFieldDescriptor q.1.2 = some ty ∧ ds[q.2]? = some (defaultValue ty)) {g : JFrame} (hg : g.method = m) (hd : decode c.code g.pc = .ok (.new index, 3)) (hc : cells + 1 ≤ R.cells) (hl : slots + n ≤ R.slots) :
    ∃ T' h', Stand p l e R s m args below meth c T' locs (cells + 1) (slots + n) ∧ T'.heap = h' ∧ Ow K Z h' n0 (D ++ [(t, ds)]) ∧ ∀ target, Steps p.tables e below (T'.setTop { g with pc := g.pc + 3, stack := .ref (n0 + D.length) :: g.stack }) target → Steps p.tables e below (T.setTop g) target := by
  obtain ⟨vm', cC, kC, h1, h2, h3, h4, X', st⟩ := X.newCold hx hown (mv hZ w) (mv hZ wi) (mv hZ wz) hg hd hc hl
  subst eT
  rw [hZ.alike.findClass] at h1
  obtain ⟨kZ, z1, -⟩ := Vm.findClass_spec h1
  obtain ⟨k', z2, z3⟩ := hZ.alike.2.2 _ _ z1
  cases h2.symm.trans z2
  have ei : kC.instanceTypes = kZ.instanceTypes := by rw [z3]
  have hN : (T.heap.push { cls := cC, slots := kC.instanceTypes.map defaultValue, vm := .none })[T.heap.size]? = some { cls := cC, slots := kC.instanceTypes.map defaultValue, vm := .none } := by simp
  have E : Ext T.heap (T.heap.push { cls := cC, slots := kC.instanceTypes.map defaultValue, vm := .none }) := ⟨by simp, fun a c h => by
    rw [Array.getElem?_push_lt (Array.getElem?_eq_some_iff.mp h).1]; exact (Array.getElem?_eq_getElem _).symm.trans h⟩
  have hsz := O.1
  refine ⟨_, _, X', rfl, O.push E (by simp) ⟨fun ty hK' => (by rw [hK] at hK'; cases hK'), fun C' hK' => ?_⟩, by rw [← hsz]; exact st⟩
  cases hK.symm.trans hK'
  rw [← hsz]
  refine ⟨⟨_, kZ, hN, h1, z1, rfl, fun _ => by simp [ei]⟩, fun i f d hi => ?_⟩
  obtain ⟨ty, t1, t2⟩ := hds ((f, d), i) (List.mem_zipIdx_iff_getElem?.mpr hi)
  refine ⟨_, t2, ?_⟩
  rw [sh_default]
  obtain ⟨c1, k1, cf, kf, i', f', a1, a2, a3, a4, a5, a6, -⟩ := ((hL t C hK).1 _ (List.mem_of_getElem? hi)).1.spec
  cases h1.symm.trans a1
  cases z1.symm.trans a2
  exact ⟨_, cf, kf, i', f', hN, a3, a4, by simp, rfl, a5, by simp [ei, a6, (State.fieldFound?_type a3 t1).2]⟩
theorem newAW (X : Stand p l e R s m args below meth c T locs cells slots) (hx : p.tables.exec = Jvm.exec) (hZ : Z.Warmed39 s.vm) {aty : ArrayType} (w : (Cond.arrayClass (newarray.typeOf aty)).before a0 Z = true) (eT : T.heap = h) (O : Ow K Z h n0 D) (hK : (K t).1 = .array (newarray.typeOf aty))
    {n : Int32} {cap : Nat} {z : Value} (hz : z = defaultValue (newarray.typeOf aty)) (hn : nA D t n cap z = some D') {g : JFrame} (hg : g.method = m) (hd : decode c.code g.pc = .ok (.newarray aty, 2)) {rest : List Value} (hs : g.stack = .int n :: rest)
    (hb : cap * 8 ≤ 536870912) (hc : cells + 1 ≤ R.cells) (hl : slots + cap ≤ R.slots) :
    ∃ T' h', Stand p l e R s m args below meth c T' locs (cells + 1) (slots + cap) ∧ T'.heap = h' ∧ Ow K Z h' n0 D' ∧ ∀ target, Steps p.tables e below (T'.setTop { g with pc := g.pc + 2, stack := .ref (n0 + D.length) :: rest }) target → Steps p.tables e below (T.setTop g) target := by
  have hcb : componentBytes (newarray.typeOf aty) ≤ 8 := by cases aty <;> decide
  by_cases q : n < 0
  · simp only [nA, if_pos q] at hn; cases hn
  simp only [nA, if_neg q] at hn
  by_cases hcap : n.toNatClampNeg ≤ cap
  · rw [if_pos hcap] at hn
    cases hn
    obtain ⟨cA, kA, comp, h1, h2, h3, X', st⟩ := X.newarrayPrim hx (mvA hZ w) hg hd hs q (Nat.le_trans (Nat.mul_le_mul hcap hcb) hb) hc (by omega)
    subst eT
    rw [hZ.alike.findClass] at h1
    obtain ⟨kZ, z1, -⟩ := Vm.findClass_spec h1
    obtain ⟨k', z2, z3⟩ := hZ.alike.2.2 _ _ z1
    cases h2.symm.trans z2
    have hsz := O.1
    refine ⟨_, _, X'.more (Nat.le_refl _) (by omega), rfl, O.push (h' := T.heap.push _) ⟨by simp, fun a c h => ?_⟩ (by simp) ⟨fun ty hK' => ?_, fun C hK' => by rw [hK] at hK'; cases hK'⟩, by rw [← hsz]; exact st⟩
    · rw [Array.getElem?_push_lt (Array.getElem?_eq_some_iff.mp h).1]; exact (Array.getElem?_eq_getElem _).symm.trans h
    · cases hK.symm.trans hK'
      rw [← hsz]
      have ek : kZ.kind = .array comp (newarray.typeOf aty) := by rw [← h3, z3]
      refine ⟨⟨_, kZ, Array.getElem?_push_size, h1, z1, rfl, fun q => by rw [ek] at q; cases q⟩, _, ⟨Array.getElem?_push_size, ⟨by simp, kZ, z1, comp, ek⟩, by simp⟩, ?_, ?_, fun v hv => ?_⟩
      · rw [hz, List.map_replicate, sh_default]; simp
      · rw [List.length_replicate]; exact (back32 q).2
      · rw [(List.mem_replicate.mp hv).2, hz]; cases aty <;> rfl
  · rw [if_neg hcap] at hn; cases hn
/-! 4. contracts and calls -/
def Qw (K : Kt) (Z : State) (n0 : Nat) (r : Option Value) (D' : Hp) : Option Value → Heap → List Loc → Prop := fun v h L => v = r ∧ Fr n0 L ∧ Ow K Z h n0 D'
def Ct (K : Kt) (l : Launch) (Z : State) (y : MethodName) (cw : Jvm.Cond) (rm : Room) (n0 : Nat) (D : Hp) (as' : Array Value) (r : Option Value) (D' : Hp) : Prop :=
  ∀ (h0 : Heap) (ws : List Jvm.Cond), Ow K Z h0 n0 D → MetFree l y (head1 (cw :: ws) rm) (fun a U => a = as' ∧ Z.Warmed39 U.vm ∧ U.heap = h0) (fun _ _ _ _ _ => True) (fun _ U o U' => ∃ v L, o = .returned v ∧ Qw K Z n0 r D' v U'.heap L ∧ FrameEnd U o U' L rm.cells rm.slots)
/-- what stands still through a body -/
def Cx (p : Program) (s : State) (m : MethodId) (meth : Method) (c : Code) (Z : State) (bytes : ByteArray) (maxL : Nat) (ret : Option FieldType) (own nm : String) : Prop :=
  p.tables.exec = Jvm.exec ∧ Z.Warmed39 s.vm ∧ c.code = bytes ∧ c.maxLocals = maxL ∧ s.vm.findClass own = some m.cls ∧ meth.name = nm ∧ meth.sig.returnType = ret ∧ meth.locks = false
variable {y : MethodName} {bytes : ByteArray} {maxL : Nat} {ret : Option FieldType} {rm : Room} {r : Option Value}
theorem Ct.of {as' : Array Value} (hpl : plainFor y = true) (body : ∀ (p : Program) (e : Env) (s : State) (m : MethodId) (below : List Frame) (meth : Method) (c : Code) (s₁ : State) (h0 : Heap), Cx p s m meth c Z bytes maxL ret y.cls y.name → Stand p l e rm s m as' below meth c s₁ [] 0 0 → s₁.heap = h0 → Ow K Z h0 n0 D →
      Gl p e below s rm.cells rm.slots (Qw K Z n0 r D') (s₁.setTop (entryFrame m as' maxL))) : Ct K l Z y (.code y bytes maxL ret) rm n0 D as' r D' := by
  intro h0 ws O
  refine MetFree.of_bodySF hpl hisR ?_
  intro p e s m args below meth c s₁ Bd hml0 hP hK
  obtain ⟨rfl, hZ, hh⟩ := hP
  exact body p e s m below meth c s₁ h0 ⟨Bd.exec, hZ, Bd.bytes, hml0, findClass_of_methodNamed Bd.named, (name_of_methodNamed Bd.named Bd.method).1, Bd.returns, BodyLoose.notSynchronized Bd⟩ (Stand.of_body Bd) (by rw [← hh, Bd.state]; rfl) O
theorem Ct.ofH {as' : Array Value} {hs : List (Nat × Nat × Nat × Nat)} (hpl : plainFor y = true) (body : ∀ (p : Program) (e : Env) (s : State) (m : MethodId) (below : List Frame) (meth : Method) (c : Code) (s₁ : State) (h0 : Heap), Cx p s m meth c Z bytes maxL ret y.cls y.name → Stand p l e rm s m as' below meth c s₁ [] 0 0 → s₁.heap = h0 → Ow K Z h0 n0 D →
      Gl p e below s rm.cells rm.slots (Qw K Z n0 r D') (s₁.setTop (entryFrame m as' maxL))) : Ct K l Z y (.codeWith y bytes maxL ret hs) rm n0 D as' r D' := by
  intro h0 ws O
  refine MetFree.of_bodySF hpl hisWith ?_
  intro p e s m args below meth c s₁ Bd hml0 hP hK
  obtain ⟨rfl, hZ, hh⟩ := hP
  exact body p e s m below meth c s₁ h0 ⟨Bd.exec, hZ, Bd.bytes, hml0, findClass_of_methodNamed Bd.named, (name_of_methodNamed Bd.named Bd.method).1, Bd.returns, BodyLoose.notSynchronized Bd⟩ (Stand.of_body Bd) (by rw [← hh, Bd.state]; rfl) O
theorem callSW (X : Stand p l e R s m args below meth c T locs cells slots) (hx : p.tables.exec = Jvm.exec) (hZ : Z.Warmed39 s.vm) {own : String} {index : Nat} (hown : s.vm.findClass own = some m.cls) (w1 : (Cond.methodLink own index y).before a0 Z = true) (w2 : (Cond.static y).before a0 Z = true) (w3 : (Cond.initialized y.cls).before a0 Z = true) (w4 : (Cond.code y bytes maxL ret).before a0 Z = true)
    (hy : y.cls ≠ "java/lang/invoke/MethodHandle" ∧ y.cls ≠ "java/lang/invoke/VarHandle") (eT : T.heap = h) (O : Ow K Z h n0 D) (N : Fr n0 locs) {as' : List Value} (hM : Ct K l Z y (.code y bytes maxL ret) rm n0 D as'.toArray r D') {W kc ks : Nat} (hkc : rm.cells = kc) (hks : rm.slots = ks) (hf : rm.frames + 1 ≤ R.frames) (hl : W + (maxL + 11) + rm.locals ≤ R.locals)
    {g : JFrame} (hg : g.method = m) (hsize : g.locals.size = c.maxLocals) {rest : List Value} (hlen : ∀ sig, parseMethodDescriptor y.desc = some sig → as'.length = sig.parameters.length) (hs : g.stack = as'.reverse ++ rest) (hW : 2 * g.monitorRoom + (rest.map fun v => v.category).sum ≤ W) (hd : decode c.code g.pc = .ok (.invokestatic index, 3)) (hc : cells + kc ≤ R.cells) (hsl : slots + ks ≤ R.slots) :
    ∃ T' h' L, Stand p l e R s m args below meth c T' L (cells + kc) (slots + ks) ∧ T'.heap = h' ∧ Ow K Z h' n0 D' ∧ Fr n0 L ∧ ∀ target, Steps p.tables e below (T'.setTop { g with pc := g.pc + 3, stack := r.toList ++ rest }) target → Steps p.tables e below (T.setTop g) target := by
  subst hkc hks
  obtain ⟨_, _, ⟨T', L', k', n'⟩, -, X', ⟨Lc, hQ, hL, hk, hn⟩, st⟩ := Jvm.LawKit.callS X hx hown (mvT hZ w1) (mvT hZ w2) (mvT hZ w3) (mvT hZ w4) hy (backOf (W := W) (hM h [] O) hZ w4 w3 hf hl) hg hsize (argsL := as') hlen hs hW hd (fun _ _ => ⟨rfl, eT, hc, hsl⟩)
  dsimp only [Pt.U, Pt.locs, Pt.cells, Pt.slots] at X' hL hk hn st hQ
  subst hL hk hn
  obtain ⟨rfl, N', O'⟩ := hQ
  exact ⟨T', _, _, X', rfl, O', N.app N', st⟩
theorem callSHW (X : Stand p l e R s m args below meth c T locs cells slots) (hx : p.tables.exec = Jvm.exec) (hZ : Z.Warmed39 s.vm) {own : String} {index : Nat} {hs' : List (Nat × Nat × Nat × Nat)} (hown : s.vm.findClass own = some m.cls) (w1 : (Cond.methodLink own index y).before a0 Z = true) (w2 : (Cond.static y).before a0 Z = true) (w3 : (Cond.initialized y.cls).before a0 Z = true) (w4 : (Cond.codeWith y bytes maxL ret hs').before a0 Z = true)
    (hy : y.cls ≠ "java/lang/invoke/MethodHandle" ∧ y.cls ≠ "java/lang/invoke/VarHandle") (eT : T.heap = h) (O : Ow K Z h n0 D) (N : Fr n0 locs) {as' : List Value} (hM : Ct K l Z y (.codeWith y bytes maxL ret hs') rm n0 D as'.toArray r D') {W kc ks : Nat} (hkc : rm.cells = kc) (hks : rm.slots = ks) (hf : rm.frames + 1 ≤ R.frames) (hl : W + (maxL + 11) + rm.locals ≤ R.locals)
    {g : JFrame} (hg : g.method = m) (hsize : g.locals.size = c.maxLocals) {rest : List Value} (hlen : ∀ sig, parseMethodDescriptor y.desc = some sig → as'.length = sig.parameters.length) (hs : g.stack = as'.reverse ++ rest) (hW : 2 * g.monitorRoom + (rest.map fun v => v.category).sum ≤ W) (hd : decode c.code g.pc = .ok (.invokestatic index, 3)) (hc : cells + kc ≤ R.cells) (hsl : slots + ks ≤ R.slots) :
    ∃ T' h' L, Stand p l e R s m args below meth c T' L (cells + kc) (slots + ks) ∧ T'.heap = h' ∧ Ow K Z h' n0 D' ∧ Fr n0 L ∧ ∀ target, Steps p.tables e below (T'.setTop { g with pc := g.pc + 3, stack := r.toList ++ rest }) target → Steps p.tables e below (T.setTop g) target := by
  subst hkc hks
  obtain ⟨_, _, ⟨T', L', k', n'⟩, -, X', ⟨Lc, hQ, hL, hk, hn⟩, st⟩ := callSH X hx hown (mvT hZ w1) (mvT hZ w2) (mvT hZ w3) (mvT hZ w4) hy (backOfWith (W := W) (hM h [] O) hZ w4 w3 hf hl) hg hsize (argsL := as') hlen hs hW hd (fun _ _ => ⟨rfl, eT, hc, hsl⟩)
  dsimp only [Pt.U, Pt.locs, Pt.cells, Pt.slots] at X' hL hk hn st hQ
  subst hL hk hn
  obtain ⟨rfl, N', O'⟩ := hQ
  exact ⟨T', _, _, X', rfl, O', N.app N', st⟩
theorem callIW (X : Stand p l e R s m args below meth c T locs cells slots) (hx : p.tables.exec = Jvm.exec) (hZ : Z.Warmed39 s.vm) {own : String} {index : Nat} (hy1 : y.name = "<init>") (hown : s.vm.findClass own = some m.cls) (w1 : (Cond.methodLink own index y).before a0 Z = true) (w2 : (Cond.instanceMethod y).before a0 Z = true) (w3 : (Cond.initialized y.cls).before a0 Z = true) (w4 : (Cond.code y bytes maxL none).before a0 Z = true)
    (hy : y.cls ≠ "java/lang/invoke/MethodHandle" ∧ y.cls ≠ "java/lang/invoke/VarHandle") (eT : T.heap = h) (O : Ow K Z h n0 D) (N : Fr n0 locs) {as' : List Value} (hM : Ct K l Z y (.code y bytes maxL none) rm n0 D (.ref (n0 + a) :: as').toArray r D') {W kc ks : Nat} (hkc : rm.cells = kc) (hks : rm.slots = ks) (hf : rm.frames + 1 ≤ R.frames) (hl : W + (maxL + 11) + rm.locals ≤ R.locals)
    {g : JFrame} (hg : g.method = m) (hsize : g.locals.size = c.maxLocals) {rest : List Value} (hlen : ∀ sig, parseMethodDescriptor y.desc = some sig → as'.length = sig.parameters.length) (hs : g.stack = as'.reverse ++ .ref (n0 + a) :: rest) (hW : 2 * g.monitorRoom + (rest.map fun v => v.category).sum ≤ W) (hd : decode c.code g.pc = .ok (.invokespecial index, 3)) (hc : cells + kc ≤ R.cells) (hsl : slots + ks ≤ R.slots) :
    ∃ T' h' L, Stand p l e R s m args below meth c T' L (cells + kc) (slots + ks) ∧ T'.heap = h' ∧ Ow K Z h' n0 D' ∧ Fr n0 L ∧ ∀ target, Steps p.tables e below (T'.setTop { g with pc := g.pc + 3, stack := r.toList ++ rest }) target → Steps p.tables e below (T.setTop g) target := by
  subst hkc hks
  obtain ⟨_, _, ⟨T', L', k', n'⟩, -, X', ⟨Lc, hQ, hL, hk, hn⟩, st⟩ := Jvm.LawKit.callI X hx hown hy1 (mvT hZ w1) (mvT hZ w2) (mvT hZ w4) hy (backOf (W := W) (hM h [] O) hZ w4 w3 hf hl) hg hsize (argsL := as') hlen hs hW hd (fun _ _ => ⟨rfl, eT, hc, hsl⟩)
  dsimp only [Pt.U, Pt.locs, Pt.cells, Pt.slots] at X' hL hk hn st hQ
  subst hL hk hn
  obtain ⟨rfl, N', O'⟩ := hQ
  exact ⟨T', _, _, X', rfl, O', N.app N', st⟩
theorem callVW (X : Stand p l e R s m args below meth c T locs cells slots) (hx : p.tables.exec = Jvm.exec) (hZ : Z.Warmed39 s.vm) {own C : String} {index : Nat} (hown : s.vm.findClass own = some m.cls) (w1 : (Cond.methodLink own index y).before a0 Z = true) (w2 : (Cond.declares y).before a0 Z = true) (w5 : (Cond.selects C y y).before a0 Z = true) (w6 : (Cond.instanceMethod y).before a0 Z = true) (w3 : (Cond.initialized y.cls).before a0 Z = true) (w4 : (Cond.code y bytes maxL ret).before a0 Z = true)
    (hy : y.cls ≠ "java/lang/invoke/MethodHandle" ∧ y.cls ≠ "java/lang/invoke/VarHandle") (eT : T.heap = h) (O : Ow K Z h n0 D) (N : Fr n0 locs) {q : Nat} (hck : ck D a t = some q) (hK : (K t).1 = .object C) {as' : List Value} (hM : Ct K l Z y (.code y bytes maxL ret) rm n0 D (.ref (n0 + a) :: as').toArray r D') {W kc ks : Nat} (hkc : rm.cells = kc) (hks : rm.slots = ks) (hf : rm.frames + 1 ≤ R.frames) (hl : W + (maxL + 11) + rm.locals ≤ R.locals)
    {g : JFrame} (hg : g.method = m) (hsize : g.locals.size = c.maxLocals) {rest : List Value} (hlen : ∀ sig, parseMethodDescriptor y.desc = some sig → as'.length = sig.parameters.length) (hs : g.stack = as'.reverse ++ .ref (n0 + a) :: rest) (hW : 2 * g.monitorRoom + (rest.map fun v => v.category).sum ≤ W) (hd : decode c.code g.pc = .ok (.invokevirtual index, 3)) (hc : cells + kc ≤ R.cells) (hsl : slots + ks ≤ R.slots) :
    ∃ T' h' L, Stand p l e R s m args below meth c T' L (cells + kc) (slots + ks) ∧ T'.heap = h' ∧ Ow K Z h' n0 D' ∧ Fr n0 L ∧ ∀ target, Steps p.tables e below (T'.setTop { g with pc := g.pc + 3, stack := r.toList ++ rest }) target → Steps p.tables e below (T.setTop g) target := by
  subst hkc hks
  obtain ⟨cq, kq, qa, qb, qc⟩ := isOf hZ eT (O.exaC hck hK)
  obtain ⟨_, _, ⟨T', L', k', n'⟩, -, X', ⟨Lc, hQ, hL, hk, hn⟩, st⟩ := X.virtualBack hx (y := y) (z := y) hown (mvT hZ w1) (mvT hZ w2) (notFace_of_selects (args := #[]) (mvT hZ w5)) (mvT hZ w5) (mvT hZ w6) hy (backOf (W := W) (hM h [] O) hZ w4 w3 hf hl) qa qc hg hsize (Steps.refl _) (argsL := as') hlen hs hW hd (fun _ _ => ⟨rfl, eT, hc, hsl⟩)
  dsimp only [Pt.U, Pt.locs, Pt.cells, Pt.slots] at X' hL hk hn st hQ
  subst hL hk hn
  obtain ⟨rfl, N', O'⟩ := hQ
  exact ⟨T', _, _, X', rfl, O', N.app N', fun target k => st.trans k⟩
theorem callPW (X : Stand p l e R s m args below meth c T locs cells slots) (hx : p.tables.exec = Jvm.exec) (hZ : Z.Warmed39 s.vm) {own C : String} {index nk : Nat} (hown : s.vm.findClass own = some m.cls) (w1 : (Cond.methodLink own index y).before a0 Z = true) (w2 : (Cond.privateMethod y).before a0 Z = true) (w5 : (Cond.instantiable y.cls nk).before a0 Z = true) (w6 : (Cond.instanceMethod y).before a0 Z = true) (w3 : (Cond.initialized y.cls).before a0 Z = true) (w4 : (Cond.code y bytes maxL ret).before a0 Z = true)
    (hy : y.cls ≠ "java/lang/invoke/MethodHandle" ∧ y.cls ≠ "java/lang/invoke/VarHandle") (eT : T.heap = h) (O : Ow K Z h n0 D) (N : Fr n0 locs) {q : Nat} (hck : ck D a t = some q) (hK : (K t).1 = .object C) {as' : List Value} (hM : Ct K l Z y (.code y bytes maxL ret) rm n0 D (.ref (n0 + a) :: as').toArray r D') {W kc ks : Nat} (hkc : rm.cells = kc) (hks : rm.slots = ks) (hf : rm.frames + 1 ≤ R.frames) (hl : W + (maxL + 11) + rm.locals ≤ R.locals)
    {g : JFrame} (hg : g.method = m) (hsize : g.locals.size = c.maxLocals) {rest : List Value} (hlen : ∀ sig, parseMethodDescriptor y.desc = some sig → as'.length = sig.parameters.length) (hs : g.stack = as'.reverse ++ .ref (n0 + a) :: rest) (hW : 2 * g.monitorRoom + (rest.map fun v => v.category).sum ≤ W) (hd : decode c.code g.pc = .ok (.invokevirtual index, 3)) (hc : cells + kc ≤ R.cells) (hsl : slots + ks ≤ R.slots) :
    ∃ T' h' L, Stand p l e R s m args below meth c T' L (cells + kc) (slots + ks) ∧ T'.heap = h' ∧ Ow K Z h' n0 D' ∧ Fr n0 L ∧ ∀ target, Steps p.tables e below (T'.setTop { g with pc := g.pc + 3, stack := r.toList ++ rest }) target → Steps p.tables e below (T.setTop g) target := by
  subst hkc hks
  obtain ⟨cC, kC, i1, i2, -, i4, -, -⟩ := Cond.instantiable_spec (mvT (args := args) hZ w5)
  have hpr := Cond.privateMethod_at (mvP (args := args) hZ w2)
  have hsel := selects_self_of_private i1 i2 (Bool.or_eq_false_iff.mp i4).1 hpr (mvT (args := args) hZ w6) hy
  obtain ⟨cq, qa, qb⟩ := (O.exaC hck hK).cell
  obtain ⟨_, _, ⟨T', L', k', n'⟩, -, X', ⟨Lc, hQ, hL, hk, hn⟩, st⟩ := X.privateBack hx (y := y) hown (mvT hZ w1) (mvT hZ w6) hsel hpr (mvT hZ w4) hy (backOf (W := W) (hM h [] O) hZ w4 w3 hf hl) hg hsize (Steps.refl _) (by rw [eT]; exact qa) qb (argsL := as') hlen hs hW hd (fun _ _ => ⟨rfl, eT, hc, hsl⟩)
  dsimp only [Pt.U, Pt.locs, Pt.cells, Pt.slots] at X' hL hk hn st hQ
  subst hL hk hn
  obtain ⟨rfl, N', O'⟩ := hQ
  exact ⟨T', _, _, X', rfl, O', N.app N', fun target k => st.trans k⟩
theorem cloneW (X : Stand p l e R s m args below meth c T locs cells slots) (hx : p.tables.exec = Jvm.exec) (hZ : Z.Warmed39 s.vm) {own ad : String} {index : Nat} {ty : FieldType} (hown : s.vm.findClass own = some m.cls) (had : ad = "[" ++ ty.toString)
    (w1 : (Cond.methodLink own index ⟨ad, "clone", "()Ljava/lang/Object;"⟩).before a0 Z = true) (w2 : (Cond.sameMethod ad "java/lang/Object" "clone" "()Ljava/lang/Object;").before a0 Z = true) (w3 : (Cond.native ⟨"java/lang/Object", "clone", "()Ljava/lang/Object;"⟩).before a0 Z = true)
    (w4 : (Cond.instanceMethod ⟨"java/lang/Object", "clone", "()Ljava/lang/Object;"⟩).before a0 Z = true) (w5 : (Cond.selects ad ⟨ad, "clone", "()Ljava/lang/Object;"⟩ ⟨"java/lang/Object", "clone", "()Ljava/lang/Object;"⟩).before a0 Z = true) (w6 : (Cond.castable ad "java/lang/Cloneable").before a0 Z = true)
    (eT : T.heap = h) (O : Ow K Z h n0 D) (hK : (K t).1 = .array ty) {cap : Nat} (hq : cA' D a t cap = some D') {g : JFrame} (hg : g.method = m) (hsize : g.locals.size = c.maxLocals) {rest : List Value} (hs : g.stack = .ref (n0 + a) :: rest) (hd : decode c.code g.pc = .ok (.invokevirtual index, 3))
    (hf : 1 ≤ R.frames) {W : Nat} (hW : 2 * g.monitorRoom + (rest.map fun v => v.category).sum ≤ W) (hl : W + 14 ≤ R.locals) (hc : cells + 1 ≤ R.cells) (hsl : slots + cap ≤ R.slots) :
    ∃ T' h', Stand p l e R s m args below meth c T' locs (cells + 1) (slots + cap) ∧ T'.heap = h' ∧ Ow K Z h' n0 D' ∧ ∀ target, Steps p.tables e below (T'.setTop { g with pc := g.pc + 3, stack := .ref (n0 + D.length) :: rest }) target → Steps p.tables e below (T.setTop g) target := by
  obtain ⟨vs, h1, h2, rfl⟩ := cA_e hq
  obtain ⟨E, cl, A, hsl', hlen, hfit⟩ := (O.2 a t vs h1).1 ty hK
  rw [← had] at E
  obtain ⟨c2, k, e1, e2, e3, e4, e5⟩ := E
  cases A.1.symm.trans e1
  obtain ⟨c1, cC, g1, g2, g3⟩ := Cond.castable_spec w6
  cases e2.symm.trans g1
  have hal : Z.vm.Alike T.vm := hZ.alike.trans X.warmed.alike
  have hsz : cl.slots.size = vs.length := by rw [hsl', sh_len]
  have hfc : ∀ i v, cl.slots[i]? = some v → Z.fitsSlot cl.cls .none i v = true := fun i v hv => by
    obtain ⟨-, k2, hk2, comp, hkind⟩ := A.2.1
    have e : Z.slotType? cl.cls .none i = some ty := by simp [State.slotType?, hk2, hkind]
    have hv' : ∃ w ∈ vs, sh n0 w = v := by
      rw [hsl'] at hv
      have hm : v ∈ vs.map (sh n0) := by
        have := Array.mem_of_getElem? hv
        simpa using this
      exact List.mem_map.mp hm
    obtain ⟨w, hw, rfl⟩ := hv'
    have hfw : fits ty (sh n0 w) = true := by
      have := hfit w hw
      cases w <;> first | exact this | (cases ty <;> first | (cases this; done) | rfl)
    simpa [State.fitsSlot, e] using hfw
  obtain ⟨vm', X', st⟩ := X.cloneArray hx hown (mv hZ w1) (mv hZ w2) (mv hZ w3) (mv hZ w4) (mv hZ w5) (a := n0 + a) (by rw [eT]; exact A.1) A.2.1.1 A.2.2 (by rw [hZ.alike.findClass]; exact e2) (by rw [hZ.alike.findClass]; exact g2) (by rw [hZ.alike.assignable]; exact g3)
    (fun i v hv => by have q := hfc i v hv; rw [← State.fitsSlot_setVm hal] at q; exact q) hg hsize hs hd hf (by omega) hc (by omega)
    (by obtain ⟨-, k2, hk2, comp, hkind⟩ := A.2.1; rw [hZ.alike.clonesLoader]; exact Vm.clonesLoader_of_array hk2 hkind)
  subst eT
  have hs0 := O.1
  refine ⟨_, _, X'.more (Nat.le_refl _) (by omega), rfl, O.push (h' := T.heap.push _) ⟨by simp, fun a c h => ?_⟩ (by simp) ⟨fun ty' hK' => ?_, fun C hK' => by rw [hK] at hK'; cases hK'⟩, by rw [← hs0]; exact st⟩
  · rw [Array.getElem?_push_lt (Array.getElem?_eq_some_iff.mp h).1]; exact (Array.getElem?_eq_getElem _).symm.trans h
  · cases hK.symm.trans hK'
    rw [← hs0, ← had]
    exact ⟨⟨_, k, Array.getElem?_push_size, e2, e3, rfl, e5⟩, _, ⟨Array.getElem?_push_size, ⟨fun _ z => (by cases z), A.2.1.2⟩, fun z => (by cases z)⟩, hsl', hlen, hfit⟩
theorem castW (X : Stand p l e R s m args below meth c T locs cells slots) (hx : p.tables.exec = Jvm.exec) (hZ : Z.Warmed39 s.vm) {own ad : String} {index : Nat} {ty : FieldType} (hown : s.vm.findClass own = some m.cls) (w : (Cond.classLink own index ad).before a0 Z = true) (had : ad = "[" ++ ty.toString) (eT : T.heap = h) (O : Ow K Z h n0 D) {q : Nat} (hck : ck D a t = some q) (hK : (K t).1 = .array ty)
    {g : JFrame} (hg : g.method = m) {rest : List Value} (hs : g.stack = .ref (n0 + a) :: rest) (hd : decode c.code g.pc = .ok (.checkcast index, 3)) : ∃ T', Stand p l e R s m args below meth c T' locs cells slots ∧ T'.heap = h ∧ ∀ target, Steps p.tables e below (T'.setTop { g with pc := g.pc + 3 }) target → Steps p.tables e below (T.setTop g) target := by
  obtain ⟨vs, h1⟩ := ck_e hck
  obtain ⟨E, -⟩ := (O.2 a t vs h1).1 ty hK
  rw [← had] at E
  exact castY X hx hZ hown w eT (Ins.self E) hg hs hd
end OwnLaws
def Kt1 : Kt := fun k => match k with
  | 0 => ((.array .int), [])
  | 1 => ((.object "com/example/pathweave/pathweave/core/PairIndex"), [("sizes", "[I"), ("sizesBefore", "[I"), ("rowStart", "[I"), ("count", "I")])
  | _ => (.int, [])
theorem lay1 {Z : State} {a0 : Array Value} (hw : ∀ d ∈ tables_1, d.before a0 Z = true) : Lay Kt1 Z a0 := by
  intro t C hC
  match t, hC with
  | 0, hC => cases hC
  | 1, hC =>
    cases hC
    refine ⟨fun q hq => ?_, by decide⟩
    have hq' : q ∈ [(("sizes", "[I") : String × String), (("sizesBefore", "[I") : String × String), (("rowStart", "[I") : String × String), (("count", "I") : String × String)] := hq
    simp only [List.mem_cons, List.not_mem_nil, or_false] at hq'
    rcases hq' with rfl | rfl | rfl | rfl
    · exact ⟨Or.inr (hw _ (List.mem_of_getElem? (i := 39) rfl)), _, (by decide : parseFieldDescriptor _ = some (.array .int))⟩
    · exact ⟨Or.inr (hw _ (List.mem_of_getElem? (i := 41) rfl)), _, (by decide : parseFieldDescriptor _ = some (.array .int))⟩
    · exact ⟨Or.inr (hw _ (List.mem_of_getElem? (i := 43) rfl)), _, (by decide : parseFieldDescriptor _ = some (.array .int))⟩
    · exact ⟨Or.inr (hw _ (List.mem_of_getElem? (i := 45) rfl)), _, (by decide : parseFieldDescriptor _ = some .int)⟩
  | n + 2, hC => cases hC
theorem d6_0 : decode jdk_29_method_61_code 0 = .ok (.lload_n 0, 1) := by decide +kernel
theorem d6_1 : decode jdk_29_method_61_code 1 = .ok (.lconst 0, 1) := by decide +kernel
theorem d6_2 : decode jdk_29_method_61_code 2 = .ok (.lcmp, 1) := by decide +kernel
theorem d6_3 : decode jdk_29_method_61_code 3 = .ok (.ifCond .ge 8, 3) := by decide +kernel
theorem d6_6 : decode jdk_29_method_61_code 6 = .ok (.lload_n 0, 1) := by decide +kernel
theorem d6_7 : decode jdk_29_method_61_code 7 = .ok (.lneg, 1) := by decide +kernel
theorem d6_8 : decode jdk_29_method_61_code 8 = .ok (.goto 4, 3) := by decide +kernel
theorem d6_11 : decode jdk_29_method_61_code 11 = .ok (.lload_n 0, 1) := by decide +kernel
theorem d6_12 : decode jdk_29_method_61_code 12 = .ok (.lreturn, 1) := by decide +kernel
def f6 (D : Hp) (j0 : Int64) : Option (Int64 × Hp) :=
  if j0 < (0 : Int64) then (some ((-j0), D)) else (some (j0, D))
theorem ef_6 (m : MethodId) (j0 : Int64) : entryFrame m #[(.long j0)] 2 = mkF m 0 #[.val (.long j0), .second] [] := by first | (simp [entryFrame, mkF, argsToLocals, Value.category]; done) | rfl
set_option maxRecDepth 65536 in
set_option maxHeartbeats 40000000 in
theorem ct6 {l : Launch} {Z : State} {a0 : Array Value} (hw : ∀ d ∈ tables_1, d.before a0 Z = true) {n0 : Nat} {D D' : Hp} {j0 : Int64} {r : Int64} (hf : f6 D j0 = some (r, D')) :
    Ct Kt1 l Z (⟨"java/lang/Math", "abs", "(J)J"⟩ : MethodName) (.code (⟨"java/lang/Math", "abs", "(J)J"⟩ : MethodName) jdk_29_method_61_code 2 (some .long)) ({ frames := 0, cells := 0, slots := 0, locals := 0 } : Room) n0 D #[(.long j0)] (some (.long r)) D' := by
  refine Ct.of (Jvm.Free.JP.mathPlain rfl (by decide +kernel)) ?_
  intro p e s m below meth c T0 h0 hC X0 e0 O0
  obtain ⟨hx, hZ, hby, hml, hown, hnm, hret, hlk⟩ := id hC
  have hml : c.maxLocals = 2 := hml
  have hown : s.vm.findClass "java/lang/Math" = some m.cls := hown
  have hnm : meth.name = "abs" := hnm
  have N0 := Fr.nil n0
  refine Gl.on (fun t k => castTop (ef_6 m j0) k) ?_
  rw [f6] at hf
  refine Gl.on (B := T0.setTop (mkF m 3 #[.val (.long j0), .second] [(.int (lcmpW j0 (0 : Int64)))])) (fun t k => ?_) ?_
  · show Steps p.tables e below (T0.setTop (mkF m 0 #[.val (.long j0), .second] [])) _
    refine XS.lloadN X0.here hx rfl (hb hby d6_0) rfl ?_
    show Steps p.tables e below (T0.setTop (mkF m 1 #[.val (.long j0), .second] [(.long j0)])) _
    refine XS.lconst X0.here hx rfl (hb hby d6_1) ?_
    show Steps p.tables e below (T0.setTop (mkF m 2 #[.val (.long j0), .second] [(.long (0 : Int64)), (.long j0)])) _
    refine XS.lcmp X0.here hx rfl (hb hby d6_2) rfl ?_
    exact k
  by_cases hc1 : j0 < (0 : Int64)
  · rw [if_pos hc1] at hf
    refine Gl.on (B := T0.setTop (mkF m 12 #[.val (.long j0), .second] [(.long (-j0))])) (fun t k => ?_) ?_
    · show Steps p.tables e below (T0.setTop (mkF m 3 #[.val (.long j0), .second] [(.int (lcmpW j0 (0 : Int64)))])) _
      refine XS.ifNo X0.here hx rfl (hb hby d6_3) rfl ((if0 _ _).trans (tlt ((lw_lt _ _).mpr hc1)).2.1) ?_
      show Steps p.tables e below (T0.setTop (mkF m 6 #[.val (.long j0), .second] [])) _
      refine XS.lloadN X0.here hx rfl (hb hby d6_6) rfl ?_
      show Steps p.tables e below (T0.setTop (mkF m 7 #[.val (.long j0), .second] [(.long j0)])) _
      refine XS.lneg X0.here hx rfl (hb hby d6_7) rfl ?_
      show Steps p.tables e below (T0.setTop (mkF m 8 #[.val (.long j0), .second] [(.long (-j0))])) _
      refine XS.goto X0.here hx rfl (pc0 := 8) (pc' := 12) rfl (hb hby d6_8) (by decide) (by decide) ?_
      exact k
    obtain ⟨rfl, rfl⟩ := own_inj hf
    exact Gl.outJ X0 hx hlk hret (hb hby d6_12) ⟨rfl, N0, by rw [e0]; exact O0⟩ (by show _ ≤ 0; omega) (by show _ ≤ 0; omega)
  · rw [if_neg hc1] at hf
    refine Gl.on (B := T0.setTop (mkF m 12 #[.val (.long j0), .second] [(.long j0)])) (fun t k => ?_) ?_
    · show Steps p.tables e below (T0.setTop (mkF m 3 #[.val (.long j0), .second] [(.int (lcmpW j0 (0 : Int64)))])) _
      refine XS.ifYes X0.here hx rfl (pc0 := 3) (pc' := 11) rfl (hb hby d6_3) rfl ((if0 _ _).trans (flt (mt (lw_lt _ _).mp hc1)).2.1) (by decide) (by decide) ?_
      show Steps p.tables e below (T0.setTop (mkF m 11 #[.val (.long j0), .second] [])) _
      refine XS.lloadN X0.here hx rfl (hb hby d6_11) rfl ?_
      exact k
    obtain ⟨rfl, rfl⟩ := own_inj hf
    exact Gl.outJ X0 hx hlk hret (hb hby d6_12) ⟨rfl, N0, by rw [e0]; exact O0⟩ (by show _ ≤ 0; omega) (by show _ ≤ 0; omega)
theorem pd_0 : parseMethodDescriptor "(J)J" = some ⟨[.long], some .long⟩ := by decide +kernel
theorem d5_0 : decode jdk_29_method_30_code 0 = .ok (.lload_n 0, 1) := by decide +kernel
theorem d5_1 : decode jdk_29_method_30_code 1 = .ok (.lload_n 2, 1) := by decide +kernel
theorem d5_2 : decode jdk_29_method_30_code 2 = .ok (.lmul, 1) := by decide +kernel
theorem d5_3 : decode jdk_29_method_30_code 3 = .ok (.lstore 4, 2) := by decide +kernel
theorem d5_5 : decode jdk_29_method_30_code 5 = .ok (.lload_n 0, 1) := by decide +kernel
theorem d5_6 : decode jdk_29_method_30_code 6 = .ok (.invokestatic 122, 3) := by decide +kernel
theorem d5_9 : decode jdk_29_method_30_code 9 = .ok (.lstore 6, 2) := by decide +kernel
theorem d5_11 : decode jdk_29_method_30_code 11 = .ok (.lload_n 2, 1) := by decide +kernel
theorem d5_12 : decode jdk_29_method_30_code 12 = .ok (.invokestatic 122, 3) := by decide +kernel
theorem d5_15 : decode jdk_29_method_30_code 15 = .ok (.lstore 8, 2) := by decide +kernel
theorem d5_17 : decode jdk_29_method_30_code 17 = .ok (.lload 6, 2) := by decide +kernel
theorem d5_19 : decode jdk_29_method_30_code 19 = .ok (.lload 8, 2) := by decide +kernel
theorem d5_21 : decode jdk_29_method_30_code 21 = .ok (.lor, 1) := by decide +kernel
theorem d5_22 : decode jdk_29_method_30_code 22 = .ok (.bipush 31, 2) := by decide +kernel
theorem d5_24 : decode jdk_29_method_30_code 24 = .ok (.lushr, 1) := by decide +kernel
theorem d5_25 : decode jdk_29_method_30_code 25 = .ok (.lconst 0, 1) := by decide +kernel
theorem d5_26 : decode jdk_29_method_30_code 26 = .ok (.lcmp, 1) := by decide +kernel
theorem d5_27 : decode jdk_29_method_30_code 27 = .ok (.ifCond .eq 44, 3) := by decide +kernel
theorem d5_30 : decode jdk_29_method_30_code 30 = .ok (.lload_n 2, 1) := by decide +kernel
theorem d5_31 : decode jdk_29_method_30_code 31 = .ok (.lconst 0, 1) := by decide +kernel
theorem d5_32 : decode jdk_29_method_30_code 32 = .ok (.lcmp, 1) := by decide +kernel
theorem d5_33 : decode jdk_29_method_30_code 33 = .ok (.ifCond .eq 12, 3) := by decide +kernel
theorem d5_36 : decode jdk_29_method_30_code 36 = .ok (.lload 4, 2) := by decide +kernel
theorem d5_38 : decode jdk_29_method_30_code 38 = .ok (.lload_n 2, 1) := by decide +kernel
theorem d5_39 : decode jdk_29_method_30_code 39 = .ok (.ldiv, 1) := by decide +kernel
theorem d5_40 : decode jdk_29_method_30_code 40 = .ok (.lload_n 0, 1) := by decide +kernel
theorem d5_41 : decode jdk_29_method_30_code 41 = .ok (.lcmp, 1) := by decide +kernel
theorem d5_42 : decode jdk_29_method_30_code 42 = .ok (.ifCond .ne 19, 3) := by decide +kernel
theorem d5_45 : decode jdk_29_method_30_code 45 = .ok (.lload_n 0, 1) := by decide +kernel
theorem d5_71 : decode jdk_29_method_30_code 71 = .ok (.lload 4, 2) := by decide +kernel
theorem d5_73 : decode jdk_29_method_30_code 73 = .ok (.lreturn, 1) := by decide +kernel
def f5 (D : Hp) (j0 : Int64) (j2 : Int64) : Option (Int64 × Hp) :=
  own_let (j0 * j2) fun v1 =>
  (f6 D j0).bind fun q2 => own_let q2.1 fun x3 => own_let q2.2 fun D2 =>
  (f6 D2 j2).bind fun q4 => own_let q4.1 fun x5 => own_let q4.2 fun D4 =>
  if (((x3 ||| x5).toUInt64 >>> ((31 : Int32) &&& 0x3f).toInt64.toUInt64).toInt64) = (0 : Int64) then (some (v1, D4)) else (if j2 = (0 : Int64) then (none) else (if j2 = (0 : Int64) then none else
  if (v1 / j2) = j0 then (none) else (none)))
theorem ef_5 (m : MethodId) (j0 : Int64) (j2 : Int64) : entryFrame m #[(.long j0), (.long j2)] 10 = mkF m 0 #[.val (.long j0), .second, .val (.long j2), .second, .unset, .unset, .unset, .unset, .unset, .unset] [] := by first | (simp [entryFrame, mkF, argsToLocals, Value.category]; done) | rfl
set_option maxRecDepth 65536 in
set_option maxHeartbeats 40000000 in
theorem ct5 {l : Launch} {Z : State} {a0 : Array Value} (hw : ∀ d ∈ tables_1, d.before a0 Z = true) {n0 : Nat} {D D' : Hp} {j0 : Int64} {j2 : Int64} {r : Int64} (hf : f5 D j0 j2 = some (r, D')) :
    Ct Kt1 l Z (⟨"java/lang/Math", "multiplyExact", "(JJ)J"⟩ : MethodName) (.code (⟨"java/lang/Math", "multiplyExact", "(JJ)J"⟩ : MethodName) jdk_29_method_30_code 10 (some .long)) ({ frames := 1, cells := 0, slots := 0, locals := 13 } : Room) n0 D #[(.long j0), (.long j2)] (some (.long r)) D' := by
  refine Ct.of (Jvm.Free.JP.mathPlain rfl (by decide +kernel)) ?_
  intro p e s m below meth c T0 h0 hC X0 e0 O0
  obtain ⟨hx, hZ, hby, hml, hown, hnm, hret, hlk⟩ := id hC
  have hml : c.maxLocals = 10 := hml
  have hown : s.vm.findClass "java/lang/Math" = some m.cls := hown
  have hnm : meth.name = "multiplyExact" := hnm
  have N0 := Fr.nil n0
  refine Gl.on (fun t k => castTop (ef_5 m j0 j2) k) ?_
  rw [f5] at hf
  obtain ⟨v1, hv1, hf⟩ := own_letE hf
  obtain ⟨⟨x3, D2⟩, hq2, hf⟩ := own_bind hf
  obtain ⟨_, rfl, hf⟩ := own_letE hf
  obtain ⟨_, rfl, hf⟩ := own_letE hf
  obtain ⟨T2, h2, L2, X2, e2, O2, N2, st2⟩ := callSW X0 hx hZ (y := (⟨"java/lang/Math", "abs", "(J)J"⟩ : MethodName)) hown (hw _ (List.mem_of_getElem? (i := 22) rfl)) (hw _ (List.mem_of_getElem? (i := 23) rfl)) (hw _ (List.mem_of_getElem? (i := 17) rfl)) (hw _ (List.mem_of_getElem? (i := 24) rfl)) (by decide) e0 O0 N0 (as' := [(.long j0)]) (ct6 hw hq2) (W := 0) (kc := 0) (ks := 0) rfl rfl (by decide) (by decide) (g := (mkF m 6 #[.val (.long j0), .second, .val (.long j2), .second, .val (.long v1), .second, .unset, .unset, .unset, .unset] [(.long j0)])) rfl (by rw [hml]; rfl) (rest := []) (lenOf pd_0 rfl) rfl (by show 2 * 0 + _ ≤ _; exact Nat.le_of_eq rfl) (hb hby d5_6) (by show _ + 0 ≤ 0; omega) (by show _ + 0 ≤ 0; omega)
  obtain ⟨⟨x5, D4⟩, hq4, hf⟩ := own_bind hf
  obtain ⟨_, rfl, hf⟩ := own_letE hf
  obtain ⟨_, rfl, hf⟩ := own_letE hf
  obtain ⟨T4, h4, L4, X4, e4, O4, N4, st4⟩ := callSW X2 hx hZ (y := (⟨"java/lang/Math", "abs", "(J)J"⟩ : MethodName)) hown (hw _ (List.mem_of_getElem? (i := 22) rfl)) (hw _ (List.mem_of_getElem? (i := 23) rfl)) (hw _ (List.mem_of_getElem? (i := 17) rfl)) (hw _ (List.mem_of_getElem? (i := 24) rfl)) (by decide) e2 O2 N2 (as' := [(.long j2)]) (ct6 hw hq4) (W := 0) (kc := 0) (ks := 0) rfl rfl (by decide) (by decide) (g := (mkF m 12 #[.val (.long j0), .second, .val (.long j2), .second, .val (.long v1), .second, .val (.long x3), .second, .unset, .unset] [(.long j2)])) rfl (by rw [hml]; rfl) (rest := []) (lenOf pd_0 rfl) rfl (by show 2 * 0 + _ ≤ _; exact Nat.le_of_eq rfl) (hb hby d5_12) (by show _ + 0 ≤ 0; omega) (by show _ + 0 ≤ 0; omega)
  refine Gl.on (B := T4.setTop (mkF m 27 #[.val (.long j0), .second, .val (.long j2), .second, .val (.long v1), .second, .val (.long x3), .second, .val (.long x5), .second] [(.int (lcmpW (((x3 ||| x5).toUInt64 >>> ((31 : Int32) &&& 0x3f).toInt64.toUInt64).toInt64) (0 : Int64)))])) (fun t k => ?_) ?_
  · show Steps p.tables e below (T0.setTop (mkF m 0 #[.val (.long j0), .second, .val (.long j2), .second, .unset, .unset, .unset, .unset, .unset, .unset] [])) _
    refine XS.lloadN X0.here hx rfl (hb hby d5_0) rfl ?_
    show Steps p.tables e below (T0.setTop (mkF m 1 #[.val (.long j0), .second, .val (.long j2), .second, .unset, .unset, .unset, .unset, .unset, .unset] [(.long j0)])) _
    refine XS.lloadN X0.here hx rfl (hb hby d5_1) rfl ?_
    show Steps p.tables e below (T0.setTop (mkF m 2 #[.val (.long j0), .second, .val (.long j2), .second, .unset, .unset, .unset, .unset, .unset, .unset] [(.long j2), (.long j0)])) _
    refine XS.lmul X0.here hx rfl (hb hby d5_2) rfl ?_
    show Steps p.tables e below (T0.setTop (mkF m 3 #[.val (.long j0), .second, .val (.long j2), .second, .unset, .unset, .unset, .unset, .unset, .unset] [(.long (j0 * j2))])) _
    refine own_to (congrArg (fun z => T0.setTop (mkF m 3 #[.val (.long j0), .second, .val (.long j2), .second, .unset, .unset, .unset, .unset, .unset, .unset] [(.long z)])) hv1) ?_
    show Steps p.tables e below (T0.setTop (mkF m 3 #[.val (.long j0), .second, .val (.long j2), .second, .unset, .unset, .unset, .unset, .unset, .unset] [(.long v1)])) _
    refine XS.lstore X0.here hx rfl (hb hby d5_3) rfl (l' := #[.val (.long j0), .second, .val (.long j2), .second, .val (.long v1), .second, .unset, .unset, .unset, .unset]) rfl ?_
    show Steps p.tables e below (T0.setTop (mkF m 5 #[.val (.long j0), .second, .val (.long j2), .second, .val (.long v1), .second, .unset, .unset, .unset, .unset] [])) _
    refine XS.lloadN X0.here hx rfl (hb hby d5_5) rfl ?_
    show Steps p.tables e below (T0.setTop (mkF m 6 #[.val (.long j0), .second, .val (.long j2), .second, .val (.long v1), .second, .unset, .unset, .unset, .unset] [(.long j0)])) _
    refine st2 _ ?_
    show Steps p.tables e below (T2.setTop (mkF m 9 #[.val (.long j0), .second, .val (.long j2), .second, .val (.long v1), .second, .unset, .unset, .unset, .unset] [(.long x3)])) _
    refine XS.lstore X2.here hx rfl (hb hby d5_9) rfl (l' := #[.val (.long j0), .second, .val (.long j2), .second, .val (.long v1), .second, .val (.long x3), .second, .unset, .unset]) rfl ?_
    show Steps p.tables e below (T2.setTop (mkF m 11 #[.val (.long j0), .second, .val (.long j2), .second, .val (.long v1), .second, .val (.long x3), .second, .unset, .unset] [])) _
    refine XS.lloadN X2.here hx rfl (hb hby d5_11) rfl ?_
    show Steps p.tables e below (T2.setTop (mkF m 12 #[.val (.long j0), .second, .val (.long j2), .second, .val (.long v1), .second, .val (.long x3), .second, .unset, .unset] [(.long j2)])) _
    refine st4 _ ?_
    show Steps p.tables e below (T4.setTop (mkF m 15 #[.val (.long j0), .second, .val (.long j2), .second, .val (.long v1), .second, .val (.long x3), .second, .unset, .unset] [(.long x5)])) _
    refine XS.lstore X4.here hx rfl (hb hby d5_15) rfl (l' := #[.val (.long j0), .second, .val (.long j2), .second, .val (.long v1), .second, .val (.long x3), .second, .val (.long x5), .second]) rfl ?_
    show Steps p.tables e below (T4.setTop (mkF m 17 #[.val (.long j0), .second, .val (.long j2), .second, .val (.long v1), .second, .val (.long x3), .second, .val (.long x5), .second] [])) _
    refine XS.lload X4.here hx rfl (hb hby d5_17) rfl ?_
    show Steps p.tables e below (T4.setTop (mkF m 19 #[.val (.long j0), .second, .val (.long j2), .second, .val (.long v1), .second, .val (.long x3), .second, .val (.long x5), .second] [(.long x3)])) _
    refine XS.lload X4.here hx rfl (hb hby d5_19) rfl ?_
    show Steps p.tables e below (T4.setTop (mkF m 21 #[.val (.long j0), .second, .val (.long j2), .second, .val (.long v1), .second, .val (.long x3), .second, .val (.long x5), .second] [(.long x5), (.long x3)])) _
    refine XS.lor X4.here hx rfl (hb hby d5_21) rfl ?_
    show Steps p.tables e below (T4.setTop (mkF m 22 #[.val (.long j0), .second, .val (.long j2), .second, .val (.long v1), .second, .val (.long x3), .second, .val (.long x5), .second] [(.long (x3 ||| x5))])) _
    refine XS.bipush X4.here hx rfl (hb hby d5_22) ?_
    show Steps p.tables e below (T4.setTop (mkF m 24 #[.val (.long j0), .second, .val (.long j2), .second, .val (.long v1), .second, .val (.long x3), .second, .val (.long x5), .second] [(.int (31 : Int32)), (.long (x3 ||| x5))])) _
    refine XS.lushr X4.here hx rfl (hb hby d5_24) rfl ?_
    show Steps p.tables e below (T4.setTop (mkF m 25 #[.val (.long j0), .second, .val (.long j2), .second, .val (.long v1), .second, .val (.long x3), .second, .val (.long x5), .second] [(.long (((x3 ||| x5).toUInt64 >>> ((31 : Int32) &&& 0x3f).toInt64.toUInt64).toInt64))])) _
    refine XS.lconst X4.here hx rfl (hb hby d5_25) ?_
    show Steps p.tables e below (T4.setTop (mkF m 26 #[.val (.long j0), .second, .val (.long j2), .second, .val (.long v1), .second, .val (.long x3), .second, .val (.long x5), .second] [(.long (0 : Int64)), (.long (((x3 ||| x5).toUInt64 >>> ((31 : Int32) &&& 0x3f).toInt64.toUInt64).toInt64))])) _
    refine XS.lcmp X4.here hx rfl (hb hby d5_26) rfl ?_
    exact k
  by_cases hc6 : (((x3 ||| x5).toUInt64 >>> ((31 : Int32) &&& 0x3f).toInt64.toUInt64).toInt64) = (0 : Int64)
  · rw [if_pos hc6] at hf
    refine Gl.on (B := T4.setTop (mkF m 73 #[.val (.long j0), .second, .val (.long j2), .second, .val (.long v1), .second, .val (.long x3), .second, .val (.long x5), .second] [(.long v1)])) (fun t k => ?_) ?_
    · show Steps p.tables e below (T4.setTop (mkF m 27 #[.val (.long j0), .second, .val (.long j2), .second, .val (.long v1), .second, .val (.long x3), .second, .val (.long x5), .second] [(.int (lcmpW (((x3 ||| x5).toUInt64 >>> ((31 : Int32) &&& 0x3f).toInt64.toUInt64).toInt64) (0 : Int64)))])) _
      refine XS.ifYes X4.here hx rfl (pc0 := 27) (pc' := 71) rfl (hb hby d5_27) rfl ((if0 _ _).trans (teq ((lw_eq _ _).mpr hc6)).1) (by decide) (by decide) ?_
      show Steps p.tables e below (T4.setTop (mkF m 71 #[.val (.long j0), .second, .val (.long j2), .second, .val (.long v1), .second, .val (.long x3), .second, .val (.long x5), .second] [])) _
      refine XS.lload X4.here hx rfl (hb hby d5_71) rfl ?_
      exact k
    obtain ⟨rfl, rfl⟩ := own_inj hf
    exact Gl.outJ X4 hx hlk hret (hb hby d5_73) ⟨rfl, N4, by rw [e4]; exact O4⟩ (by show _ ≤ 0; omega) (by show _ ≤ 0; omega)
  · rw [if_neg hc6] at hf
    refine Gl.on (B := T4.setTop (mkF m 33 #[.val (.long j0), .second, .val (.long j2), .second, .val (.long v1), .second, .val (.long x3), .second, .val (.long x5), .second] [(.int (lcmpW j2 (0 : Int64)))])) (fun t k => ?_) ?_
    · show Steps p.tables e below (T4.setTop (mkF m 27 #[.val (.long j0), .second, .val (.long j2), .second, .val (.long v1), .second, .val (.long x3), .second, .val (.long x5), .second] [(.int (lcmpW (((x3 ||| x5).toUInt64 >>> ((31 : Int32) &&& 0x3f).toInt64.toUInt64).toInt64) (0 : Int64)))])) _
      refine XS.ifNo X4.here hx rfl (hb hby d5_27) rfl ((if0 _ _).trans (feq (mt (lw_eq _ _).mp hc6)).1) ?_
      show Steps p.tables e below (T4.setTop (mkF m 30 #[.val (.long j0), .second, .val (.long j2), .second, .val (.long v1), .second, .val (.long x3), .second, .val (.long x5), .second] [])) _
      refine XS.lloadN X4.here hx rfl (hb hby d5_30) rfl ?_
      show Steps p.tables e below (T4.setTop (mkF m 31 #[.val (.long j0), .second, .val (.long j2), .second, .val (.long v1), .second, .val (.long x3), .second, .val (.long x5), .second] [(.long j2)])) _
      refine XS.lconst X4.here hx rfl (hb hby d5_31) ?_
      show Steps p.tables e below (T4.setTop (mkF m 32 #[.val (.long j0), .second, .val (.long j2), .second, .val (.long v1), .second, .val (.long x3), .second, .val (.long x5), .second] [(.long (0 : Int64)), (.long j2)])) _
      refine XS.lcmp X4.here hx rfl (hb hby d5_32) rfl ?_
      exact k
    by_cases hc7 : j2 = (0 : Int64)
    · rw [if_pos hc7] at hf
      cases hf
    · rw [if_neg hc7] at hf
      refine Gl.on (B := T4.setTop (mkF m 39 #[.val (.long j0), .second, .val (.long j2), .second, .val (.long v1), .second, .val (.long x3), .second, .val (.long x5), .second] [(.long j2), (.long v1)])) (fun t k => ?_) ?_
      · show Steps p.tables e below (T4.setTop (mkF m 33 #[.val (.long j0), .second, .val (.long j2), .second, .val (.long v1), .second, .val (.long x3), .second, .val (.long x5), .second] [(.int (lcmpW j2 (0 : Int64)))])) _
        refine XS.ifNo X4.here hx rfl (hb hby d5_33) rfl ((if0 _ _).trans (feq (mt (lw_eq _ _).mp hc7)).1) ?_
        show Steps p.tables e below (T4.setTop (mkF m 36 #[.val (.long j0), .second, .val (.long j2), .second, .val (.long v1), .second, .val (.long x3), .second, .val (.long x5), .second] [])) _
        refine XS.lload X4.here hx rfl (hb hby d5_36) rfl ?_
        show Steps p.tables e below (T4.setTop (mkF m 38 #[.val (.long j0), .second, .val (.long j2), .second, .val (.long v1), .second, .val (.long x3), .second, .val (.long x5), .second] [(.long v1)])) _
        refine XS.lloadN X4.here hx rfl (hb hby d5_38) rfl ?_
        exact k
      by_cases hz8 : j2 = (0 : Int64)
      · rw [if_pos hz8] at hf; cases hf
      rw [if_neg hz8] at hf
      refine Gl.on (B := T4.setTop (mkF m 42 #[.val (.long j0), .second, .val (.long j2), .second, .val (.long v1), .second, .val (.long x3), .second, .val (.long x5), .second] [(.int (lcmpW (v1 / j2) j0))])) (fun t k => ?_) ?_
      · show Steps p.tables e below (T4.setTop (mkF m 39 #[.val (.long j0), .second, .val (.long j2), .second, .val (.long v1), .second, .val (.long x3), .second, .val (.long x5), .second] [(.long j2), (.long v1)])) _
        refine XS.ldiv X4.here hx rfl (hb hby d5_39) rfl hz8 ?_
        show Steps p.tables e below (T4.setTop (mkF m 40 #[.val (.long j0), .second, .val (.long j2), .second, .val (.long v1), .second, .val (.long x3), .second, .val (.long x5), .second] [(.long (v1 / j2))])) _
        refine XS.lloadN X4.here hx rfl (hb hby d5_40) rfl ?_
        show Steps p.tables e below (T4.setTop (mkF m 41 #[.val (.long j0), .second, .val (.long j2), .second, .val (.long v1), .second, .val (.long x3), .second, .val (.long x5), .second] [(.long j0), (.long (v1 / j2))])) _
        refine XS.lcmp X4.here hx rfl (hb hby d5_41) rfl ?_
        exact k
      by_cases hc9 : (v1 / j2) = j0
      · rw [if_pos hc9] at hf
        cases hf
      · rw [if_neg hc9] at hf
        cases hf
theorem pd_1 : parseMethodDescriptor "(JJ)J" = some ⟨[.long, .long], some .long⟩ := by decide +kernel
theorem d4_0 : decode jdk_29_method_29_code 0 = .ok (.lload_n 0, 1) := by decide +kernel
theorem d4_1 : decode jdk_29_method_29_code 1 = .ok (.iload_n 2, 1) := by decide +kernel
theorem d4_2 : decode jdk_29_method_29_code 2 = .ok (.i2l, 1) := by decide +kernel
theorem d4_3 : decode jdk_29_method_29_code 3 = .ok (.invokestatic 118, 3) := by decide +kernel
theorem d4_6 : decode jdk_29_method_29_code 6 = .ok (.lreturn, 1) := by decide +kernel
def f4 (D : Hp) (j0 : Int64) (i2 : Int32) : Option (Int64 × Hp) :=
  (f5 D j0 (i2.toInt64)).bind fun q1 => own_let q1.1 fun x2 => own_let q1.2 fun D1 =>
  some (x2, D1)
theorem ef_4 (m : MethodId) (j0 : Int64) (i2 : Int32) : entryFrame m #[(.long j0), (.int i2)] 3 = mkF m 0 #[.val (.long j0), .second, .val (.int i2)] [] := by first | (simp [entryFrame, mkF, argsToLocals, Value.category]; done) | rfl
set_option maxRecDepth 65536 in
set_option maxHeartbeats 40000000 in
theorem ct4 {l : Launch} {Z : State} {a0 : Array Value} (hw : ∀ d ∈ tables_1, d.before a0 Z = true) {n0 : Nat} {D D' : Hp} {j0 : Int64} {i2 : Int32} {r : Int64} (hf : f4 D j0 i2 = some (r, D')) :
    Ct Kt1 l Z (⟨"java/lang/Math", "multiplyExact", "(JI)J"⟩ : MethodName) (.code (⟨"java/lang/Math", "multiplyExact", "(JI)J"⟩ : MethodName) jdk_29_method_29_code 3 (some .long)) ({ frames := 2, cells := 0, slots := 0, locals := 34 } : Room) n0 D #[(.long j0), (.int i2)] (some (.long r)) D' := by
  refine Ct.of (Jvm.Free.JP.mathPlain rfl (by decide +kernel)) ?_
  intro p e s m below meth c T0 h0 hC X0 e0 O0
  obtain ⟨hx, hZ, hby, hml, hown, hnm, hret, hlk⟩ := id hC
  have hml : c.maxLocals = 3 := hml
  have hown : s.vm.findClass "java/lang/Math" = some m.cls := hown
  have hnm : meth.name = "multiplyExact" := hnm
  have N0 := Fr.nil n0
  refine Gl.on (fun t k => castTop (ef_4 m j0 i2) k) ?_
  rw [f4] at hf
  obtain ⟨⟨x2, D1⟩, hq1, hf⟩ := own_bind hf
  obtain ⟨_, rfl, hf⟩ := own_letE hf
  obtain ⟨_, rfl, hf⟩ := own_letE hf
  obtain ⟨T1, h1, L1, X1, e1, O1, N1, st1⟩ := callSW X0 hx hZ (y := (⟨"java/lang/Math", "multiplyExact", "(JJ)J"⟩ : MethodName)) hown (hw _ (List.mem_of_getElem? (i := 19) rfl)) (hw _ (List.mem_of_getElem? (i := 20) rfl)) (hw _ (List.mem_of_getElem? (i := 17) rfl)) (hw _ (List.mem_of_getElem? (i := 21) rfl)) (by decide) e0 O0 N0 (as' := [(.long j0), (.long (i2.toInt64))]) (ct5 hw hq1) (W := 0) (kc := 0) (ks := 0) rfl rfl (by decide) (by decide) (g := (mkF m 3 #[.val (.long j0), .second, .val (.int i2)] [(.long (i2.toInt64)), (.long j0)])) rfl (by rw [hml]; rfl) (rest := []) (lenOf pd_1 rfl) rfl (by show 2 * 0 + _ ≤ _; exact Nat.le_of_eq rfl) (hb hby d4_3) (by show _ + 0 ≤ 0; omega) (by show _ + 0 ≤ 0; omega)
  refine Gl.on (B := T1.setTop (mkF m 6 #[.val (.long j0), .second, .val (.int i2)] [(.long x2)])) (fun t k => ?_) ?_
  · show Steps p.tables e below (T0.setTop (mkF m 0 #[.val (.long j0), .second, .val (.int i2)] [])) _
    refine XS.lloadN X0.here hx rfl (hb hby d4_0) rfl ?_
    show Steps p.tables e below (T0.setTop (mkF m 1 #[.val (.long j0), .second, .val (.int i2)] [(.long j0)])) _
    refine XS.iloadN X0.here hx rfl (hb hby d4_1) rfl ?_
    show Steps p.tables e below (T0.setTop (mkF m 2 #[.val (.long j0), .second, .val (.int i2)] [(.int i2), (.long j0)])) _
    refine XS.i2l X0.here hx rfl (hb hby d4_2) rfl ?_
    show Steps p.tables e below (T0.setTop (mkF m 3 #[.val (.long j0), .second, .val (.int i2)] [(.long (i2.toInt64)), (.long j0)])) _
    refine st1 _ ?_
    exact k
  obtain ⟨rfl, rfl⟩ := own_inj hf
  exact Gl.outJ X1 hx hlk hret (hb hby d4_6) ⟨rfl, N1, by rw [e1]; exact O1⟩ (by show _ ≤ 0; omega) (by show _ ≤ 0; omega)
theorem d7_0 : decode jdk_29_method_25_code 0 = .ok (.lload_n 0, 1) := by decide +kernel
theorem d7_1 : decode jdk_29_method_25_code 1 = .ok (.lload_n 2, 1) := by decide +kernel
theorem d7_2 : decode jdk_29_method_25_code 2 = .ok (.ladd, 1) := by decide +kernel
theorem d7_3 : decode jdk_29_method_25_code 3 = .ok (.lstore 4, 2) := by decide +kernel
theorem d7_5 : decode jdk_29_method_25_code 5 = .ok (.lload_n 0, 1) := by decide +kernel
theorem d7_6 : decode jdk_29_method_25_code 6 = .ok (.lload 4, 2) := by decide +kernel
theorem d7_8 : decode jdk_29_method_25_code 8 = .ok (.lxor, 1) := by decide +kernel
theorem d7_9 : decode jdk_29_method_25_code 9 = .ok (.lload_n 2, 1) := by decide +kernel
theorem d7_10 : decode jdk_29_method_25_code 10 = .ok (.lload 4, 2) := by decide +kernel
theorem d7_12 : decode jdk_29_method_25_code 12 = .ok (.lxor, 1) := by decide +kernel
theorem d7_13 : decode jdk_29_method_25_code 13 = .ok (.land, 1) := by decide +kernel
theorem d7_14 : decode jdk_29_method_25_code 14 = .ok (.lconst 0, 1) := by decide +kernel
theorem d7_15 : decode jdk_29_method_25_code 15 = .ok (.lcmp, 1) := by decide +kernel
theorem d7_16 : decode jdk_29_method_25_code 16 = .ok (.ifCond .ge 13, 3) := by decide +kernel
theorem d7_29 : decode jdk_29_method_25_code 29 = .ok (.lload 4, 2) := by decide +kernel
theorem d7_31 : decode jdk_29_method_25_code 31 = .ok (.lreturn, 1) := by decide +kernel
def f7 (D : Hp) (j0 : Int64) (j2 : Int64) : Option (Int64 × Hp) :=
  own_let (j0 + j2) fun v1 =>
  if ((j0 ^^^ v1) &&& (j2 ^^^ v1)) < (0 : Int64) then (none) else (some (v1, D))
theorem ef_7 (m : MethodId) (j0 : Int64) (j2 : Int64) : entryFrame m #[(.long j0), (.long j2)] 6 = mkF m 0 #[.val (.long j0), .second, .val (.long j2), .second, .unset, .unset] [] := by first | (simp [entryFrame, mkF, argsToLocals, Value.category]; done) | rfl
set_option maxRecDepth 65536 in
set_option maxHeartbeats 40000000 in
theorem ct7 {l : Launch} {Z : State} {a0 : Array Value} (hw : ∀ d ∈ tables_1, d.before a0 Z = true) {n0 : Nat} {D D' : Hp} {j0 : Int64} {j2 : Int64} {r : Int64} (hf : f7 D j0 j2 = some (r, D')) :
    Ct Kt1 l Z (⟨"java/lang/Math", "addExact", "(JJ)J"⟩ : MethodName) (.code (⟨"java/lang/Math", "addExact", "(JJ)J"⟩ : MethodName) jdk_29_method_25_code 6 (some .long)) ({ frames := 0, cells := 0, slots := 0, locals := 0 } : Room) n0 D #[(.long j0), (.long j2)] (some (.long r)) D' := by
  refine Ct.of (Jvm.Free.JP.mathPlain rfl (by decide +kernel)) ?_
  intro p e s m below meth c T0 h0 hC X0 e0 O0
  obtain ⟨hx, hZ, hby, hml, hown, hnm, hret, hlk⟩ := id hC
  have hml : c.maxLocals = 6 := hml
  have hown : s.vm.findClass "java/lang/Math" = some m.cls := hown
  have hnm : meth.name = "addExact" := hnm
  have N0 := Fr.nil n0
  refine Gl.on (fun t k => castTop (ef_7 m j0 j2) k) ?_
  rw [f7] at hf
  obtain ⟨v1, hv1, hf⟩ := own_letE hf
  refine Gl.on (B := T0.setTop (mkF m 16 #[.val (.long j0), .second, .val (.long j2), .second, .val (.long v1), .second] [(.int (lcmpW ((j0 ^^^ v1) &&& (j2 ^^^ v1)) (0 : Int64)))])) (fun t k => ?_) ?_
  · show Steps p.tables e below (T0.setTop (mkF m 0 #[.val (.long j0), .second, .val (.long j2), .second, .unset, .unset] [])) _
    refine XS.lloadN X0.here hx rfl (hb hby d7_0) rfl ?_
    show Steps p.tables e below (T0.setTop (mkF m 1 #[.val (.long j0), .second, .val (.long j2), .second, .unset, .unset] [(.long j0)])) _
    refine XS.lloadN X0.here hx rfl (hb hby d7_1) rfl ?_
    show Steps p.tables e below (T0.setTop (mkF m 2 #[.val (.long j0), .second, .val (.long j2), .second, .unset, .unset] [(.long j2), (.long j0)])) _
    refine XS.ladd X0.here hx rfl (hb hby d7_2) rfl ?_
    show Steps p.tables e below (T0.setTop (mkF m 3 #[.val (.long j0), .second, .val (.long j2), .second, .unset, .unset] [(.long (j0 + j2))])) _
    refine own_to (congrArg (fun z => T0.setTop (mkF m 3 #[.val (.long j0), .second, .val (.long j2), .second, .unset, .unset] [(.long z)])) hv1) ?_
    show Steps p.tables e below (T0.setTop (mkF m 3 #[.val (.long j0), .second, .val (.long j2), .second, .unset, .unset] [(.long v1)])) _
    refine XS.lstore X0.here hx rfl (hb hby d7_3) rfl (l' := #[.val (.long j0), .second, .val (.long j2), .second, .val (.long v1), .second]) rfl ?_
    show Steps p.tables e below (T0.setTop (mkF m 5 #[.val (.long j0), .second, .val (.long j2), .second, .val (.long v1), .second] [])) _
    refine XS.lloadN X0.here hx rfl (hb hby d7_5) rfl ?_
    show Steps p.tables e below (T0.setTop (mkF m 6 #[.val (.long j0), .second, .val (.long j2), .second, .val (.long v1), .second] [(.long j0)])) _
    refine XS.lload X0.here hx rfl (hb hby d7_6) rfl ?_
    show Steps p.tables e below (T0.setTop (mkF m 8 #[.val (.long j0), .second, .val (.long j2), .second, .val (.long v1), .second] [(.long v1), (.long j0)])) _
    refine XS.lxor X0.here hx rfl (hb hby d7_8) rfl ?_
    show Steps p.tables e below (T0.setTop (mkF m 9 #[.val (.long j0), .second, .val (.long j2), .second, .val (.long v1), .second] [(.long (j0 ^^^ v1))])) _
    refine XS.lloadN X0.here hx rfl (hb hby d7_9) rfl ?_
    show Steps p.tables e below (T0.setTop (mkF m 10 #[.val (.long j0), .second, .val (.long j2), .second, .val (.long v1), .second] [(.long j2), (.long (j0 ^^^ v1))])) _
    refine XS.lload X0.here hx rfl (hb hby d7_10) rfl ?_
    show Steps p.tables e below (T0.setTop (mkF m 12 #[.val (.long j0), .second, .val (.long j2), .second, .val (.long v1), .second] [(.long v1), (.long j2), (.long (j0 ^^^ v1))])) _
    refine XS.lxor X0.here hx rfl (hb hby d7_12) rfl ?_
    show Steps p.tables e below (T0.setTop (mkF m 13 #[.val (.long j0), .second, .val (.long j2), .second, .val (.long v1), .second] [(.long (j2 ^^^ v1)), (.long (j0 ^^^ v1))])) _
    refine XS.land X0.here hx rfl (hb hby d7_13) rfl ?_
    show Steps p.tables e below (T0.setTop (mkF m 14 #[.val (.long j0), .second, .val (.long j2), .second, .val (.long v1), .second] [(.long ((j0 ^^^ v1) &&& (j2 ^^^ v1)))])) _
    refine XS.lconst X0.here hx rfl (hb hby d7_14) ?_
    show Steps p.tables e below (T0.setTop (mkF m 15 #[.val (.long j0), .second, .val (.long j2), .second, .val (.long v1), .second] [(.long (0 : Int64)), (.long ((j0 ^^^ v1) &&& (j2 ^^^ v1)))])) _
    refine XS.lcmp X0.here hx rfl (hb hby d7_15) rfl ?_
    exact k
  by_cases hc2 : ((j0 ^^^ v1) &&& (j2 ^^^ v1)) < (0 : Int64)
  · rw [if_pos hc2] at hf
    cases hf
  · rw [if_neg hc2] at hf
    refine Gl.on (B := T0.setTop (mkF m 31 #[.val (.long j0), .second, .val (.long j2), .second, .val (.long v1), .second] [(.long v1)])) (fun t k => ?_) ?_
    · show Steps p.tables e below (T0.setTop (mkF m 16 #[.val (.long j0), .second, .val (.long j2), .second, .val (.long v1), .second] [(.int (lcmpW ((j0 ^^^ v1) &&& (j2 ^^^ v1)) (0 : Int64)))])) _
      refine XS.ifYes X0.here hx rfl (pc0 := 16) (pc' := 29) rfl (hb hby d7_16) rfl ((if0 _ _).trans (flt (mt (lw_lt _ _).mp hc2)).2.1) (by decide) (by decide) ?_
      show Steps p.tables e below (T0.setTop (mkF m 29 #[.val (.long j0), .second, .val (.long j2), .second, .val (.long v1), .second] [])) _
      refine XS.lload X0.here hx rfl (hb hby d7_29) rfl ?_
      exact k
    obtain ⟨rfl, rfl⟩ := own_inj hf
    exact Gl.outJ X0 hx hlk hret (hb hby d7_31) ⟨rfl, N0, by rw [e0]; exact O0⟩ (by show _ ≤ 0; omega) (by show _ ≤ 0; omega)
theorem pd_2 : parseMethodDescriptor "(JI)J" = some ⟨[.long, .int], some .long⟩ := by decide +kernel
theorem d3_0 : decode prog_19_method_2_code 0 = .ok (.lconst 0, 1) := by decide +kernel
theorem d3_1 : decode prog_19_method_2_code 1 = .ok (.lstore_n 1, 1) := by decide +kernel
theorem d3_2 : decode prog_19_method_2_code 2 = .ok (.lconst 0, 1) := by decide +kernel
theorem d3_3 : decode prog_19_method_2_code 3 = .ok (.lstore_n 3, 1) := by decide +kernel
theorem d3_4 : decode prog_19_method_2_code 4 = .ok (.aload_n 0, 1) := by decide +kernel
theorem d3_5 : decode prog_19_method_2_code 5 = .ok (.astore 5, 2) := by decide +kernel
theorem d3_7 : decode prog_19_method_2_code 7 = .ok (.aload 5, 2) := by decide +kernel
theorem d3_9 : decode prog_19_method_2_code 9 = .ok (.arraylength, 1) := by decide +kernel
theorem d3_10 : decode prog_19_method_2_code 10 = .ok (.istore 6, 2) := by decide +kernel
theorem d3_12 : decode prog_19_method_2_code 12 = .ok (.iconst 0, 1) := by decide +kernel
theorem d3_13 : decode prog_19_method_2_code 13 = .ok (.istore 7, 2) := by decide +kernel
theorem d3_15 : decode prog_19_method_2_code 15 = .ok (.iload 7, 2) := by decide +kernel
theorem d3_17 : decode prog_19_method_2_code 17 = .ok (.iload 6, 2) := by decide +kernel
theorem d3_19 : decode prog_19_method_2_code 19 = .ok (.if_icmp .ge 42, 3) := by decide +kernel
theorem d3_22 : decode prog_19_method_2_code 22 = .ok (.aload 5, 2) := by decide +kernel
theorem d3_24 : decode prog_19_method_2_code 24 = .ok (.iload 7, 2) := by decide +kernel
theorem d3_26 : decode prog_19_method_2_code 26 = .ok (.iaload, 1) := by decide +kernel
theorem d3_27 : decode prog_19_method_2_code 27 = .ok (.istore 8, 2) := by decide +kernel
theorem d3_29 : decode prog_19_method_2_code 29 = .ok (.lload_n 1, 1) := by decide +kernel
theorem d3_30 : decode prog_19_method_2_code 30 = .ok (.lload_n 3, 1) := by decide +kernel
theorem d3_31 : decode prog_19_method_2_code 31 = .ok (.iload 8, 2) := by decide +kernel
theorem d3_33 : decode prog_19_method_2_code 33 = .ok (.invokestatic 7, 3) := by decide +kernel
theorem d3_36 : decode prog_19_method_2_code 36 = .ok (.invokestatic 13, 3) := by decide +kernel
theorem d3_39 : decode prog_19_method_2_code 39 = .ok (.lstore_n 1, 1) := by decide +kernel
theorem d3_40 : decode prog_19_method_2_code 40 = .ok (.goto 9, 3) := by decide +kernel
theorem d3_49 : decode prog_19_method_2_code 49 = .ok (.lload_n 3, 1) := by decide +kernel
theorem d3_50 : decode prog_19_method_2_code 50 = .ok (.iload 8, 2) := by decide +kernel
theorem d3_52 : decode prog_19_method_2_code 52 = .ok (.i2l, 1) := by decide +kernel
theorem d3_53 : decode prog_19_method_2_code 53 = .ok (.ladd, 1) := by decide +kernel
theorem d3_54 : decode prog_19_method_2_code 54 = .ok (.lstore_n 3, 1) := by decide +kernel
theorem d3_55 : decode prog_19_method_2_code 55 = .ok (.iinc 7 1, 3) := by decide +kernel
theorem d3_58 : decode prog_19_method_2_code 58 = .ok (.goto (-43), 3) := by decide +kernel
theorem d3_61 : decode prog_19_method_2_code 61 = .ok (.lload_n 1, 1) := by decide +kernel
theorem d3_62 : decode prog_19_method_2_code 62 = .ok (.lreturn, 1) := by decide +kernel
theorem pn_3 : plainName "com/example/pathweave/pathweave/core/Pairwise" = true := by first | (simp [plainName, overriddenIn]; done) | decide +kernel
def b3_15 : Nat → Hp → Int64 → Int64 → Nat → Int32 → Int32 → Option (Int64 × Hp)
  | 0, _, _, _, _, _, _ => none
  | fu + 1, D, j1, j3, ob5, i6, i7 =>
  if i7 < i6 then ((rI D ob5 0 i7).bind fun x3 =>
  (f4 D j3 x3).bind fun q4 => own_let q4.1 fun x5 => own_let q4.2 fun D4 =>
  (f7 D4 j1 x5).bind fun q6 => own_let q6.1 fun x7 => own_let q6.2 fun D6 =>
  own_let (j3 + (x3.toInt64)) fun v8 =>
  b3_15 fu D6 x7 v8 ob5 i6 (i7 + (1 : Int32))) else (some (j1, D))
set_option maxRecDepth 65536 in
set_option maxHeartbeats 40000000 in
theorem bt3_15 {p : Program} {l : Launch} {e : Env} {s : State} {m : MethodId} {args : Array Value} {below : List Frame} {meth : Method} {c : Code} {Z : State} {a0 : Array Value} {n0 : Nat} {D' : Hp} {r : Int64} (hw : ∀ d ∈ tables_1, d.before a0 Z = true) (hC : Cx p s m meth c Z prog_19_method_2_code 10 (some .long) "com/example/pathweave/pathweave/core/Pairwise" "pairCount") (fu : Nat) : ∀ {T0 : State} {locs : List Loc} {cells slots : Nat} {h0 : Heap} {D : Hp} {ob0 : Nat} {j1 : Int64} {j3 : Int64} {ob5 : Nat} {i6 : Int32} {i7 : Int32} {s8 : Slot}, (Stand p l e ({ frames := 3, cells := 0, slots := 0, locals := 50 } : Room) s m args below meth c T0 locs cells slots) → (T0.heap = h0) → (Ow Kt1 Z h0 n0 D) → (Fr n0 locs) → (cells ≤ 0) → (slots ≤ 0) → (One s8) → (b3_15 fu D j1 j3 ob5 i6 i7 = some (r, D')) → Gl p e below s 0 0 (Qw Kt1 Z n0 (some (.long r)) D') (T0.setTop (mkF m 15 #[.val (.ref (n0 + ob0)), .val (.long j1), .second, .val (.long j3), .second, .val (.ref (n0 + ob5)), .val (.int i6), .val (.int i7), s8, .unset] [])) := by
  obtain ⟨hx, hZ, hby, hml, hown, hnm, hret, hlk⟩ := id hC
  have hml : c.maxLocals = 10 := hml
  induction fu with
  | zero => intro T0 locs cells slots h0 D ob0 j1 j3 ob5 i6 i7 s8 X0 e0 O0 N0 hcc hss hs8 hf; cases hf
  | succ fu ih =>
    intro T0 locs cells slots h0 D ob0 j1 j3 ob5 i6 i7 s8 X0 e0 O0 N0 hcc hss hs8 hf
    rw [b3_15] at hf
    refine Gl.on (B := T0.setTop (mkF m 19 #[.val (.ref (n0 + ob0)), .val (.long j1), .second, .val (.long j3), .second, .val (.ref (n0 + ob5)), .val (.int i6), .val (.int i7), s8, .unset] [(.int i6), (.int i7)])) (fun t k => ?_) ?_
    · show Steps p.tables e below (T0.setTop (mkF m 15 #[.val (.ref (n0 + ob0)), .val (.long j1), .second, .val (.long j3), .second, .val (.ref (n0 + ob5)), .val (.int i6), .val (.int i7), s8, .unset] [])) _
      refine XS.iload X0.here hx rfl (hb hby d3_15) rfl ?_
      show Steps p.tables e below (T0.setTop (mkF m 17 #[.val (.ref (n0 + ob0)), .val (.long j1), .second, .val (.long j3), .second, .val (.ref (n0 + ob5)), .val (.int i6), .val (.int i7), s8, .unset] [(.int i7)])) _
      refine XS.iload X0.here hx rfl (hb hby d3_17) rfl ?_
      exact k
    by_cases hc2 : i7 < i6
    · rw [if_pos hc2] at hf
      obtain ⟨x3, hx3, hf⟩ := own_bind hf
      obtain ⟨⟨x5, D4⟩, hq4, hf⟩ := own_bind hf
      obtain ⟨_, rfl, hf⟩ := own_letE hf
      obtain ⟨_, rfl, hf⟩ := own_letE hf
      obtain ⟨T4, h4, L4, X4, e4, O4, N4, st4⟩ := callSW X0 hx hZ (y := (⟨"java/lang/Math", "multiplyExact", "(JI)J"⟩ : MethodName)) hown (hw _ (List.mem_of_getElem? (i := 15) rfl)) (hw _ (List.mem_of_getElem? (i := 16) rfl)) (hw _ (List.mem_of_getElem? (i := 17) rfl)) (hw _ (List.mem_of_getElem? (i := 18) rfl)) (by decide) e0 O0 N0 (as' := [(.long j3), (.int x3)]) (ct4 hw hq4) (W := 2) (kc := 0) (ks := 0) rfl rfl (by decide) (by decide) (g := (mkF m 33 #[.val (.ref (n0 + ob0)), .val (.long j1), .second, .val (.long j3), .second, .val (.ref (n0 + ob5)), .val (.int i6), .val (.int i7), .val (.int x3), .unset] [(.int x3), (.long j3), (.long j1)])) rfl (by rw [hml]; rfl) (rest := [(.long j1)]) (lenOf pd_2 rfl) rfl (by show 2 * 0 + _ ≤ _; exact Nat.le_of_eq rfl) (hb hby d3_33) (by show _ + 0 ≤ 0; omega) (by show _ + 0 ≤ 0; omega)
      obtain ⟨⟨x7, D6⟩, hq6, hf⟩ := own_bind hf
      obtain ⟨_, rfl, hf⟩ := own_letE hf
      obtain ⟨_, rfl, hf⟩ := own_letE hf
      obtain ⟨T6, h6, L6, X6, e6, O6, N6, st6⟩ := callSW X4 hx hZ (y := (⟨"java/lang/Math", "addExact", "(JJ)J"⟩ : MethodName)) hown (hw _ (List.mem_of_getElem? (i := 25) rfl)) (hw _ (List.mem_of_getElem? (i := 26) rfl)) (hw _ (List.mem_of_getElem? (i := 17) rfl)) (hw _ (List.mem_of_getElem? (i := 27) rfl)) (by decide) e4 O4 N4 (as' := [(.long j1), (.long x5)]) (ct7 hw hq6) (W := 0) (kc := 0) (ks := 0) rfl rfl (by decide) (by decide) (g := (mkF m 36 #[.val (.ref (n0 + ob0)), .val (.long j1), .second, .val (.long j3), .second, .val (.ref (n0 + ob5)), .val (.int i6), .val (.int i7), .val (.int x3), .unset] [(.long x5), (.long j1)])) rfl (by rw [hml]; rfl) (rest := []) (lenOf pd_1 rfl) rfl (by show 2 * 0 + _ ≤ _; exact Nat.le_of_eq rfl) (hb hby d3_36) (by show _ + 0 ≤ 0; omega) (by show _ + 0 ≤ 0; omega)
      obtain ⟨v8, hv8, hf⟩ := own_letE hf
      refine Gl.on (B := T6.setTop (mkF m 15 #[.val (.ref (n0 + ob0)), .val (.long x7), .second, .val (.long v8), .second, .val (.ref (n0 + ob5)), .val (.int i6), .val (.int (i7 + (1 : Int32))), .val (.int x3), .unset] [])) (fun t k => ?_) ?_
      · show Steps p.tables e below (T0.setTop (mkF m 19 #[.val (.ref (n0 + ob0)), .val (.long j1), .second, .val (.long j3), .second, .val (.ref (n0 + ob5)), .val (.int i6), .val (.int i7), s8, .unset] [(.int i6), (.int i7)])) _
        refine XS.icmpNo X0.here hx rfl (hb hby d3_19) rfl (tlt hc2).2.1 ?_
        show Steps p.tables e below (T0.setTop (mkF m 22 #[.val (.ref (n0 + ob0)), .val (.long j1), .second, .val (.long j3), .second, .val (.ref (n0 + ob5)), .val (.int i6), .val (.int i7), s8, .unset] [])) _
        refine XS.aload X0.here hx rfl (hb hby d3_22) rfl rfl ?_
        show Steps p.tables e below (T0.setTop (mkF m 24 #[.val (.ref (n0 + ob0)), .val (.long j1), .second, .val (.long j3), .second, .val (.ref (n0 + ob5)), .val (.int i6), .val (.int i7), s8, .unset] [(.ref (n0 + ob5))])) _
        refine XS.iload X0.here hx rfl (hb hby d3_24) rfl ?_
        show Steps p.tables e below (T0.setTop (mkF m 26 #[.val (.ref (n0 + ob0)), .val (.long j1), .second, .val (.long j3), .second, .val (.ref (n0 + ob5)), .val (.int i6), .val (.int i7), s8, .unset] [(.int i7), (.ref (n0 + ob5))])) _
        refine ldW X0 hx hZ e0 O0 hx3 rfl (g := (mkF m 26 #[.val (.ref (n0 + ob0)), .val (.long j1), .second, .val (.long j3), .second, .val (.ref (n0 + ob5)), .val (.int i6), .val (.int i7), s8, .unset] [(.int i7), (.ref (n0 + ob5))])) rfl rfl (hb hby d3_26) _ ?_
        show Steps p.tables e below (T0.setTop (mkF m 27 #[.val (.ref (n0 + ob0)), .val (.long j1), .second, .val (.long j3), .second, .val (.ref (n0 + ob5)), .val (.int i6), .val (.int i7), s8, .unset] [(.int x3)])) _
        refine XS.istore X0.here hx rfl (hb hby d3_27) rfl (l' := #[.val (.ref (n0 + ob0)), .val (.long j1), .second, .val (.long j3), .second, .val (.ref (n0 + ob5)), .val (.int i6), .val (.int i7), .val (.int x3), .unset]) (XS.store1 (o := s8) rfl hs8 rfl) ?_
        show Steps p.tables e below (T0.setTop (mkF m 29 #[.val (.ref (n0 + ob0)), .val (.long j1), .second, .val (.long j3), .second, .val (.ref (n0 + ob5)), .val (.int i6), .val (.int i7), .val (.int x3), .unset] [])) _
        refine XS.lloadN X0.here hx rfl (hb hby d3_29) rfl ?_
        show Steps p.tables e below (T0.setTop (mkF m 30 #[.val (.ref (n0 + ob0)), .val (.long j1), .second, .val (.long j3), .second, .val (.ref (n0 + ob5)), .val (.int i6), .val (.int i7), .val (.int x3), .unset] [(.long j1)])) _
        refine XS.lloadN X0.here hx rfl (hb hby d3_30) rfl ?_
        show Steps p.tables e below (T0.setTop (mkF m 31 #[.val (.ref (n0 + ob0)), .val (.long j1), .second, .val (.long j3), .second, .val (.ref (n0 + ob5)), .val (.int i6), .val (.int i7), .val (.int x3), .unset] [(.long j3), (.long j1)])) _
        refine XS.iload X0.here hx rfl (hb hby d3_31) rfl ?_
        show Steps p.tables e below (T0.setTop (mkF m 33 #[.val (.ref (n0 + ob0)), .val (.long j1), .second, .val (.long j3), .second, .val (.ref (n0 + ob5)), .val (.int i6), .val (.int i7), .val (.int x3), .unset] [(.int x3), (.long j3), (.long j1)])) _
        refine st4 _ ?_
        show Steps p.tables e below (T4.setTop (mkF m 36 #[.val (.ref (n0 + ob0)), .val (.long j1), .second, .val (.long j3), .second, .val (.ref (n0 + ob5)), .val (.int i6), .val (.int i7), .val (.int x3), .unset] [(.long x5), (.long j1)])) _
        refine st6 _ ?_
        show Steps p.tables e below (T6.setTop (mkF m 39 #[.val (.ref (n0 + ob0)), .val (.long j1), .second, .val (.long j3), .second, .val (.ref (n0 + ob5)), .val (.int i6), .val (.int i7), .val (.int x3), .unset] [(.long x7)])) _
        refine XS.lstoreN X6.here hx rfl (hb hby d3_39) rfl (l' := #[.val (.ref (n0 + ob0)), .val (.long x7), .second, .val (.long j3), .second, .val (.ref (n0 + ob5)), .val (.int i6), .val (.int i7), .val (.int x3), .unset]) rfl ?_
        show Steps p.tables e below (T6.setTop (mkF m 40 #[.val (.ref (n0 + ob0)), .val (.long x7), .second, .val (.long j3), .second, .val (.ref (n0 + ob5)), .val (.int i6), .val (.int i7), .val (.int x3), .unset] [])) _
        refine XS.goto X6.here hx rfl (pc0 := 40) (pc' := 49) rfl (hb hby d3_40) (by decide) (by decide) ?_
        show Steps p.tables e below (T6.setTop (mkF m 49 #[.val (.ref (n0 + ob0)), .val (.long x7), .second, .val (.long j3), .second, .val (.ref (n0 + ob5)), .val (.int i6), .val (.int i7), .val (.int x3), .unset] [])) _
        refine XS.lloadN X6.here hx rfl (hb hby d3_49) rfl ?_
        show Steps p.tables e below (T6.setTop (mkF m 50 #[.val (.ref (n0 + ob0)), .val (.long x7), .second, .val (.long j3), .second, .val (.ref (n0 + ob5)), .val (.int i6), .val (.int i7), .val (.int x3), .unset] [(.long j3)])) _
        refine XS.iload X6.here hx rfl (hb hby d3_50) rfl ?_
        show Steps p.tables e below (T6.setTop (mkF m 52 #[.val (.ref (n0 + ob0)), .val (.long x7), .second, .val (.long j3), .second, .val (.ref (n0 + ob5)), .val (.int i6), .val (.int i7), .val (.int x3), .unset] [(.int x3), (.long j3)])) _
        refine XS.i2l X6.here hx rfl (hb hby d3_52) rfl ?_
        show Steps p.tables e below (T6.setTop (mkF m 53 #[.val (.ref (n0 + ob0)), .val (.long x7), .second, .val (.long j3), .second, .val (.ref (n0 + ob5)), .val (.int i6), .val (.int i7), .val (.int x3), .unset] [(.long (x3.toInt64)), (.long j3)])) _
        refine XS.ladd X6.here hx rfl (hb hby d3_53) rfl ?_
        show Steps p.tables e below (T6.setTop (mkF m 54 #[.val (.ref (n0 + ob0)), .val (.long x7), .second, .val (.long j3), .second, .val (.ref (n0 + ob5)), .val (.int i6), .val (.int i7), .val (.int x3), .unset] [(.long (j3 + (x3.toInt64)))])) _
        refine own_to (congrArg (fun z => T6.setTop (mkF m 54 #[.val (.ref (n0 + ob0)), .val (.long x7), .second, .val (.long j3), .second, .val (.ref (n0 + ob5)), .val (.int i6), .val (.int i7), .val (.int x3), .unset] [(.long z)])) hv8) ?_
        show Steps p.tables e below (T6.setTop (mkF m 54 #[.val (.ref (n0 + ob0)), .val (.long x7), .second, .val (.long j3), .second, .val (.ref (n0 + ob5)), .val (.int i6), .val (.int i7), .val (.int x3), .unset] [(.long v8)])) _
        refine XS.lstoreN X6.here hx rfl (hb hby d3_54) rfl (l' := #[.val (.ref (n0 + ob0)), .val (.long x7), .second, .val (.long v8), .second, .val (.ref (n0 + ob5)), .val (.int i6), .val (.int i7), .val (.int x3), .unset]) rfl ?_
        show Steps p.tables e below (T6.setTop (mkF m 55 #[.val (.ref (n0 + ob0)), .val (.long x7), .second, .val (.long v8), .second, .val (.ref (n0 + ob5)), .val (.int i6), .val (.int i7), .val (.int x3), .unset] [])) _
        refine XS.iinc X6.here hx rfl (hb hby d3_55) rfl (l' := #[.val (.ref (n0 + ob0)), .val (.long x7), .second, .val (.long v8), .second, .val (.ref (n0 + ob5)), .val (.int i6), .val (.int (i7 + (1 : Int32))), .val (.int x3), .unset]) rfl ?_
        show Steps p.tables e below (T6.setTop (mkF m 58 #[.val (.ref (n0 + ob0)), .val (.long x7), .second, .val (.long v8), .second, .val (.ref (n0 + ob5)), .val (.int i6), .val (.int (i7 + (1 : Int32))), .val (.int x3), .unset] [])) _
        refine XS.goto X6.here hx rfl (pc0 := 58) (pc' := 15) rfl (hb hby d3_58) (by decide) (by decide) ?_
        exact k
      exact ih X6 e6 O6 N6 (by omega) (by omega) (One.val rfl) hf
    · rw [if_neg hc2] at hf
      refine Gl.on (B := T0.setTop (mkF m 62 #[.val (.ref (n0 + ob0)), .val (.long j1), .second, .val (.long j3), .second, .val (.ref (n0 + ob5)), .val (.int i6), .val (.int i7), s8, .unset] [(.long j1)])) (fun t k => ?_) ?_
      · show Steps p.tables e below (T0.setTop (mkF m 19 #[.val (.ref (n0 + ob0)), .val (.long j1), .second, .val (.long j3), .second, .val (.ref (n0 + ob5)), .val (.int i6), .val (.int i7), s8, .unset] [(.int i6), (.int i7)])) _
        refine XS.icmpYes X0.here hx rfl (pc0 := 19) (pc' := 61) rfl (hb hby d3_19) rfl (flt hc2).2.1 (by decide) (by decide) ?_
        show Steps p.tables e below (T0.setTop (mkF m 61 #[.val (.ref (n0 + ob0)), .val (.long j1), .second, .val (.long j3), .second, .val (.ref (n0 + ob5)), .val (.int i6), .val (.int i7), s8, .unset] [])) _
        refine XS.lloadN X0.here hx rfl (hb hby d3_61) rfl ?_
        exact k
      obtain ⟨rfl, rfl⟩ := own_inj hf
      exact Gl.outJ X0 hx hlk hret (hb hby d3_62) ⟨rfl, N0, by rw [e0]; exact O0⟩ (by show _ ≤ 0; omega) (by show _ ≤ 0; omega)
def f3 (D : Hp) (ob0 : Nat) : Option (Int64 × Hp) :=
  (lA D ob0 0).bind fun x1 =>
  b3_15 12 D (0 : Int64) (0 : Int64) ob0 x1 (0 : Int32)
theorem ef_3 (m : MethodId) (n0 : Nat) (ob0 : Nat) : entryFrame m #[(.ref (n0 + ob0))] 10 = mkF m 0 #[.val (.ref (n0 + ob0)), .unset, .unset, .unset, .unset, .unset, .unset, .unset, .unset, .unset] [] := by first | (simp [entryFrame, mkF, argsToLocals, Value.category]; done) | rfl
set_option maxRecDepth 65536 in
set_option maxHeartbeats 40000000 in
theorem ct3 {l : Launch} {Z : State} {a0 : Array Value} (hw : ∀ d ∈ tables_1, d.before a0 Z = true) {n0 : Nat} {D D' : Hp} {ob0 : Nat} {r : Int64} (hf : f3 D ob0 = some (r, D')) :
    Ct Kt1 l Z (⟨"com/example/pathweave/pathweave/core/Pairwise", "pairCount", "([I)J"⟩ : MethodName) (.codeWith (⟨"com/example/pathweave/pathweave/core/Pairwise", "pairCount", "([I)J"⟩ : MethodName) prog_19_method_2_code 10 (some .long) [((29 : Nat), (40 : Nat), (43 : Nat), (17 : Nat))]) ({ frames := 3, cells := 0, slots := 0, locals := 50 } : Room) n0 D #[(.ref (n0 + ob0))] (some (.long r)) D' := by
  refine Ct.ofH (plainFor_of_name pn_3) ?_
  intro p e s m below meth c T0 h0 hC X0 e0 O0
  obtain ⟨hx, hZ, hby, hml, hown, hnm, hret, hlk⟩ := id hC
  have hml : c.maxLocals = 10 := hml
  have hown : s.vm.findClass "com/example/pathweave/pathweave/core/Pairwise" = some m.cls := hown
  have hnm : meth.name = "pairCount" := hnm
  have N0 := Fr.nil n0
  refine Gl.on (fun t k => castTop (ef_3 m n0 ob0) k) ?_
  rw [f3] at hf
  obtain ⟨x1, hx1, hf⟩ := own_bind hf
  refine Gl.on (B := T0.setTop (mkF m 15 #[.val (.ref (n0 + ob0)), .val (.long (0 : Int64)), .second, .val (.long (0 : Int64)), .second, .val (.ref (n0 + ob0)), .val (.int x1), .val (.int (0 : Int32)), .unset, .unset] [])) (fun t k => ?_) ?_
  · show Steps p.tables e below (T0.setTop (mkF m 0 #[.val (.ref (n0 + ob0)), .unset, .unset, .unset, .unset, .unset, .unset, .unset, .unset, .unset] [])) _
    refine XS.lconst X0.here hx rfl (hb hby d3_0) ?_
    show Steps p.tables e below (T0.setTop (mkF m 1 #[.val (.ref (n0 + ob0)), .unset, .unset, .unset, .unset, .unset, .unset, .unset, .unset, .unset] [(.long (0 : Int64))])) _
    refine XS.lstoreN X0.here hx rfl (hb hby d3_1) rfl (l' := #[.val (.ref (n0 + ob0)), .val (.long (0 : Int64)), .second, .unset, .unset, .unset, .unset, .unset, .unset, .unset]) rfl ?_
    show Steps p.tables e below (T0.setTop (mkF m 2 #[.val (.ref (n0 + ob0)), .val (.long (0 : Int64)), .second, .unset, .unset, .unset, .unset, .unset, .unset, .unset] [])) _
    refine XS.lconst X0.here hx rfl (hb hby d3_2) ?_
    show Steps p.tables e below (T0.setTop (mkF m 3 #[.val (.ref (n0 + ob0)), .val (.long (0 : Int64)), .second, .unset, .unset, .unset, .unset, .unset, .unset, .unset] [(.long (0 : Int64))])) _
    refine XS.lstoreN X0.here hx rfl (hb hby d3_3) rfl (l' := #[.val (.ref (n0 + ob0)), .val (.long (0 : Int64)), .second, .val (.long (0 : Int64)), .second, .unset, .unset, .unset, .unset, .unset]) rfl ?_
    show Steps p.tables e below (T0.setTop (mkF m 4 #[.val (.ref (n0 + ob0)), .val (.long (0 : Int64)), .second, .val (.long (0 : Int64)), .second, .unset, .unset, .unset, .unset, .unset] [])) _
    refine XS.aloadN X0.here hx rfl (hb hby d3_4) rfl rfl ?_
    show Steps p.tables e below (T0.setTop (mkF m 5 #[.val (.ref (n0 + ob0)), .val (.long (0 : Int64)), .second, .val (.long (0 : Int64)), .second, .unset, .unset, .unset, .unset, .unset] [(.ref (n0 + ob0))])) _
    refine XS.astore X0.here hx rfl (hb hby d3_5) rfl rfl (l' := #[.val (.ref (n0 + ob0)), .val (.long (0 : Int64)), .second, .val (.long (0 : Int64)), .second, .val (.ref (n0 + ob0)), .unset, .unset, .unset, .unset]) rfl ?_
    show Steps p.tables e below (T0.setTop (mkF m 7 #[.val (.ref (n0 + ob0)), .val (.long (0 : Int64)), .second, .val (.long (0 : Int64)), .second, .val (.ref (n0 + ob0)), .unset, .unset, .unset, .unset] [])) _
    refine XS.aload X0.here hx rfl (hb hby d3_7) rfl rfl ?_
    show Steps p.tables e below (T0.setTop (mkF m 9 #[.val (.ref (n0 + ob0)), .val (.long (0 : Int64)), .second, .val (.long (0 : Int64)), .second, .val (.ref (n0 + ob0)), .unset, .unset, .unset, .unset] [(.ref (n0 + ob0))])) _
    refine lenW' X0 hx hZ e0 O0 hx1 (ty := .int) rfl (g := (mkF m 9 #[.val (.ref (n0 + ob0)), .val (.long (0 : Int64)), .second, .val (.long (0 : Int64)), .second, .val (.ref (n0 + ob0)), .unset, .unset, .unset, .unset] [(.ref (n0 + ob0))])) rfl rfl (hb hby d3_9) _ ?_
    show Steps p.tables e below (T0.setTop (mkF m 10 #[.val (.ref (n0 + ob0)), .val (.long (0 : Int64)), .second, .val (.long (0 : Int64)), .second, .val (.ref (n0 + ob0)), .unset, .unset, .unset, .unset] [(.int x1)])) _
    refine XS.istore X0.here hx rfl (hb hby d3_10) rfl (l' := #[.val (.ref (n0 + ob0)), .val (.long (0 : Int64)), .second, .val (.long (0 : Int64)), .second, .val (.ref (n0 + ob0)), .val (.int x1), .unset, .unset, .unset]) rfl ?_
    show Steps p.tables e below (T0.setTop (mkF m 12 #[.val (.ref (n0 + ob0)), .val (.long (0 : Int64)), .second, .val (.long (0 : Int64)), .second, .val (.ref (n0 + ob0)), .val (.int x1), .unset, .unset, .unset] [])) _
    refine XS.iconst X0.here hx rfl (hb hby d3_12) ?_
    show Steps p.tables e below (T0.setTop (mkF m 13 #[.val (.ref (n0 + ob0)), .val (.long (0 : Int64)), .second, .val (.long (0 : Int64)), .second, .val (.ref (n0 + ob0)), .val (.int x1), .unset, .unset, .unset] [(.int (0 : Int32))])) _
    refine XS.istore X0.here hx rfl (hb hby d3_13) rfl (l' := #[.val (.ref (n0 + ob0)), .val (.long (0 : Int64)), .second, .val (.long (0 : Int64)), .second, .val (.ref (n0 + ob0)), .val (.int x1), .val (.int (0 : Int32)), .unset, .unset]) rfl ?_
    exact k
  exact bt3_15 hw hC 12 X0 e0 O0 N0 (by omega) (by omega) One.u hf
theorem pd_3 : parseMethodDescriptor "([I)J" = some ⟨[(.array .int)], some .long⟩ := by decide +kernel
theorem d1_0 : decode prog_16_method_1_code 0 = .ok (.aload_n 0, 1) := by decide +kernel
theorem d1_1 : decode prog_16_method_1_code 1 = .ok (.invokespecial 1, 3) := by decide +kernel
theorem d1_4 : decode prog_16_method_1_code 4 = .ok (.aload_n 1, 1) := by decide +kernel
theorem d1_5 : decode prog_16_method_1_code 5 = .ok (.invokestatic 7, 3) := by decide +kernel
theorem d1_8 : decode prog_16_method_1_code 8 = .ok (.lstore_n 2, 1) := by decide +kernel
theorem d1_9 : decode prog_16_method_1_code 9 = .ok (.lload_n 2, 1) := by decide +kernel
theorem d1_10 : decode prog_16_method_1_code 10 = .ok (.ldc2_w 13, 3) := by decide +kernel
theorem d1_13 : decode prog_16_method_1_code 13 = .ok (.lcmp, 1) := by decide +kernel
theorem d1_14 : decode prog_16_method_1_code 14 = .ok (.ifCond .le 17, 3) := by decide +kernel
theorem d1_31 : decode prog_16_method_1_code 31 = .ok (.aload_n 0, 1) := by decide +kernel
theorem d1_32 : decode prog_16_method_1_code 32 = .ok (.aload_n 1, 1) := by decide +kernel
theorem d1_33 : decode prog_16_method_1_code 33 = .ok (.invokevirtual 24, 3) := by decide +kernel
theorem d1_36 : decode prog_16_method_1_code 36 = .ok (.checkcast 25, 3) := by decide +kernel
theorem d1_39 : decode prog_16_method_1_code 39 = .ok (.putfield 30, 3) := by decide +kernel
theorem d1_42 : decode prog_16_method_1_code 42 = .ok (.aload_n 0, 1) := by decide +kernel
theorem d1_43 : decode prog_16_method_1_code 43 = .ok (.aload_n 1, 1) := by decide +kernel
theorem d1_44 : decode prog_16_method_1_code 44 = .ok (.arraylength, 1) := by decide +kernel
theorem d1_45 : decode prog_16_method_1_code 45 = .ok (.iconst 1, 1) := by decide +kernel
theorem d1_46 : decode prog_16_method_1_code 46 = .ok (.iadd, 1) := by decide +kernel
theorem d1_47 : decode prog_16_method_1_code 47 = .ok (.newarray .int, 2) := by decide +kernel
theorem d1_49 : decode prog_16_method_1_code 49 = .ok (.putfield 35, 3) := by decide +kernel
theorem d1_52 : decode prog_16_method_1_code 52 = .ok (.iconst 0, 1) := by decide +kernel
theorem d1_53 : decode prog_16_method_1_code 53 = .ok (.istore 4, 2) := by decide +kernel
theorem d1_55 : decode prog_16_method_1_code 55 = .ok (.iload 4, 2) := by decide +kernel
theorem d1_57 : decode prog_16_method_1_code 57 = .ok (.aload_n 1, 1) := by decide +kernel
theorem d1_58 : decode prog_16_method_1_code 58 = .ok (.arraylength, 1) := by decide +kernel
theorem d1_59 : decode prog_16_method_1_code 59 = .ok (.if_icmp .ge 30, 3) := by decide +kernel
theorem d1_62 : decode prog_16_method_1_code 62 = .ok (.aload_n 0, 1) := by decide +kernel
theorem d1_63 : decode prog_16_method_1_code 63 = .ok (.getfield 35, 3) := by decide +kernel
theorem d1_66 : decode prog_16_method_1_code 66 = .ok (.iload 4, 2) := by decide +kernel
theorem d1_68 : decode prog_16_method_1_code 68 = .ok (.iconst 1, 1) := by decide +kernel
theorem d1_69 : decode prog_16_method_1_code 69 = .ok (.iadd, 1) := by decide +kernel
theorem d1_70 : decode prog_16_method_1_code 70 = .ok (.aload_n 0, 1) := by decide +kernel
theorem d1_71 : decode prog_16_method_1_code 71 = .ok (.getfield 35, 3) := by decide +kernel
theorem d1_74 : decode prog_16_method_1_code 74 = .ok (.iload 4, 2) := by decide +kernel
theorem d1_76 : decode prog_16_method_1_code 76 = .ok (.iaload, 1) := by decide +kernel
theorem d1_77 : decode prog_16_method_1_code 77 = .ok (.aload_n 1, 1) := by decide +kernel
theorem d1_78 : decode prog_16_method_1_code 78 = .ok (.iload 4, 2) := by decide +kernel
theorem d1_80 : decode prog_16_method_1_code 80 = .ok (.iaload, 1) := by decide +kernel
theorem d1_81 : decode prog_16_method_1_code 81 = .ok (.iadd, 1) := by decide +kernel
theorem d1_82 : decode prog_16_method_1_code 82 = .ok (.iastore, 1) := by decide +kernel
theorem d1_83 : decode prog_16_method_1_code 83 = .ok (.iinc 4 1, 3) := by decide +kernel
theorem d1_86 : decode prog_16_method_1_code 86 = .ok (.goto (-31), 3) := by decide +kernel
theorem d1_89 : decode prog_16_method_1_code 89 = .ok (.aload_n 0, 1) := by decide +kernel
theorem d1_90 : decode prog_16_method_1_code 90 = .ok (.aload_n 1, 1) := by decide +kernel
theorem d1_91 : decode prog_16_method_1_code 91 = .ok (.arraylength, 1) := by decide +kernel
theorem d1_92 : decode prog_16_method_1_code 92 = .ok (.newarray .int, 2) := by decide +kernel
theorem d1_94 : decode prog_16_method_1_code 94 = .ok (.putfield 38, 3) := by decide +kernel
theorem d1_97 : decode prog_16_method_1_code 97 = .ok (.iconst 1, 1) := by decide +kernel
theorem d1_98 : decode prog_16_method_1_code 98 = .ok (.istore 4, 2) := by decide +kernel
theorem d1_100 : decode prog_16_method_1_code 100 = .ok (.iload 4, 2) := by decide +kernel
theorem d1_102 : decode prog_16_method_1_code 102 = .ok (.aload_n 1, 1) := by decide +kernel
theorem d1_103 : decode prog_16_method_1_code 103 = .ok (.arraylength, 1) := by decide +kernel
theorem d1_104 : decode prog_16_method_1_code 104 = .ok (.if_icmp .ge 48, 3) := by decide +kernel
theorem d1_107 : decode prog_16_method_1_code 107 = .ok (.aload_n 0, 1) := by decide +kernel
theorem d1_108 : decode prog_16_method_1_code 108 = .ok (.getfield 38, 3) := by decide +kernel
theorem d1_111 : decode prog_16_method_1_code 111 = .ok (.iload 4, 2) := by decide +kernel
theorem d1_113 : decode prog_16_method_1_code 113 = .ok (.aload_n 0, 1) := by decide +kernel
theorem d1_114 : decode prog_16_method_1_code 114 = .ok (.getfield 38, 3) := by decide +kernel
theorem d1_117 : decode prog_16_method_1_code 117 = .ok (.iload 4, 2) := by decide +kernel
theorem d1_119 : decode prog_16_method_1_code 119 = .ok (.iconst 1, 1) := by decide +kernel
theorem d1_120 : decode prog_16_method_1_code 120 = .ok (.isub, 1) := by decide +kernel
theorem d1_121 : decode prog_16_method_1_code 121 = .ok (.iaload, 1) := by decide +kernel
theorem d1_122 : decode prog_16_method_1_code 122 = .ok (.aload_n 1, 1) := by decide +kernel
theorem d1_123 : decode prog_16_method_1_code 123 = .ok (.iload 4, 2) := by decide +kernel
theorem d1_125 : decode prog_16_method_1_code 125 = .ok (.iconst 1, 1) := by decide +kernel
theorem d1_126 : decode prog_16_method_1_code 126 = .ok (.isub, 1) := by decide +kernel
theorem d1_127 : decode prog_16_method_1_code 127 = .ok (.iaload, 1) := by decide +kernel
theorem d1_128 : decode prog_16_method_1_code 128 = .ok (.aload_n 0, 1) := by decide +kernel
theorem d1_129 : decode prog_16_method_1_code 129 = .ok (.getfield 35, 3) := by decide +kernel
theorem d1_132 : decode prog_16_method_1_code 132 = .ok (.aload_n 1, 1) := by decide +kernel
theorem d1_133 : decode prog_16_method_1_code 133 = .ok (.arraylength, 1) := by decide +kernel
theorem d1_134 : decode prog_16_method_1_code 134 = .ok (.iaload, 1) := by decide +kernel
theorem d1_135 : decode prog_16_method_1_code 135 = .ok (.aload_n 0, 1) := by decide +kernel
theorem d1_136 : decode prog_16_method_1_code 136 = .ok (.getfield 35, 3) := by decide +kernel
theorem d1_139 : decode prog_16_method_1_code 139 = .ok (.iload 4, 2) := by decide +kernel
theorem d1_141 : decode prog_16_method_1_code 141 = .ok (.iaload, 1) := by decide +kernel
theorem d1_142 : decode prog_16_method_1_code 142 = .ok (.isub, 1) := by decide +kernel
theorem d1_143 : decode prog_16_method_1_code 143 = .ok (.imul, 1) := by decide +kernel
theorem d1_144 : decode prog_16_method_1_code 144 = .ok (.iadd, 1) := by decide +kernel
theorem d1_145 : decode prog_16_method_1_code 145 = .ok (.iastore, 1) := by decide +kernel
theorem d1_146 : decode prog_16_method_1_code 146 = .ok (.iinc 4 1, 3) := by decide +kernel
theorem d1_149 : decode prog_16_method_1_code 149 = .ok (.goto (-49), 3) := by decide +kernel
theorem d1_152 : decode prog_16_method_1_code 152 = .ok (.aload_n 0, 1) := by decide +kernel
theorem d1_153 : decode prog_16_method_1_code 153 = .ok (.lload_n 2, 1) := by decide +kernel
theorem d1_154 : decode prog_16_method_1_code 154 = .ok (.l2i, 1) := by decide +kernel
theorem d1_155 : decode prog_16_method_1_code 155 = .ok (.putfield 41, 3) := by decide +kernel
theorem d1_158 : decode prog_16_method_1_code 158 = .ok (.return_, 1) := by decide +kernel
theorem pn_1 : plainName "com/example/pathweave/pathweave/core/PairIndex" = true := by first | (simp [plainName, overriddenIn]; done) | decide +kernel
def b1_100 : Nat → Hp → Nat → Nat → Int64 → Int32 → Option (Hp)
  | 0, _, _, _, _, _ => none
  | fu + 1, D, ob0, ob1, j2, i4 =>
  (lA D ob1 0).bind fun x24 =>
  if i4 < x24 then ((gR D ob0 1 2).bind fun x26 =>
  (gR D ob0 1 2).bind fun x28 =>
  (rI D x28 0 (i4 - (1 : Int32))).bind fun x30 =>
  (rI D ob1 0 (i4 - (1 : Int32))).bind fun x31 =>
  (gR D ob0 1 1).bind fun x32 =>
  (lA D ob1 0).bind fun x34 =>
  (rI D x32 0 x34).bind fun x35 =>
  (gR D ob0 1 1).bind fun x36 =>
  (rI D x36 0 i4).bind fun x38 =>
  (wV D x26 0 i4 (.int (x30 + (x31 * (x35 - x38))))).bind fun D39 =>
  b1_100 fu D39 ob0 ob1 j2 (i4 + (1 : Int32))) else ((pV D ob0 1 3 (.int (j2.toInt32))).bind fun D40 =>
  some D40)
set_option maxRecDepth 65536 in
set_option maxHeartbeats 40000000 in
theorem bt1_100 {p : Program} {l : Launch} {e : Env} {s : State} {m : MethodId} {args : Array Value} {below : List Frame} {meth : Method} {c : Code} {Z : State} {a0 : Array Value} {n0 : Nat} {D' : Hp} (hw : ∀ d ∈ tables_1, d.before a0 Z = true) (hC : Cx p s m meth c Z prog_16_method_1_code 5 none "com/example/pathweave/pathweave/core/PairIndex" "<init>") (fu : Nat) : ∀ {T0 : State} {locs : List Loc} {cells slots : Nat} {h0 : Heap} {D : Hp} {ob0 : Nat} {ob1 : Nat} {j2 : Int64} {i4 : Int32}, (Stand p l e ({ frames := 4, cells := 3, slots := 24, locals := 71 } : Room) s m args below meth c T0 locs cells slots) → (T0.heap = h0) → (Ow Kt1 Z h0 n0 D) → (Fr n0 locs) → (cells ≤ 3) → (slots ≤ 24) → (b1_100 fu D ob0 ob1 j2 i4 = some D') → Gl p e below s 3 24 (Qw Kt1 Z n0 none D') (T0.setTop (mkF m 100 #[.val (.ref (n0 + ob0)), .val (.ref (n0 + ob1)), .val (.long j2), .second, .val (.int i4)] [])) := by
  obtain ⟨hx, hZ, hby, hml, hown, hnm, hret, hlk⟩ := id hC
  have hml : c.maxLocals = 5 := hml
  induction fu with
  | zero => intro T0 locs cells slots h0 D ob0 ob1 j2 i4 X0 e0 O0 N0 hcc hss hf; cases hf
  | succ fu ih =>
    intro T0 locs cells slots h0 D ob0 ob1 j2 i4 X0 e0 O0 N0 hcc hss hf
    rw [b1_100] at hf
    obtain ⟨x24, hx24, hf⟩ := own_bind hf
    refine Gl.on (B := T0.setTop (mkF m 104 #[.val (.ref (n0 + ob0)), .val (.ref (n0 + ob1)), .val (.long j2), .second, .val (.int i4)] [(.int x24), (.int i4)])) (fun t k => ?_) ?_
    · show Steps p.tables e below (T0.setTop (mkF m 100 #[.val (.ref (n0 + ob0)), .val (.ref (n0 + ob1)), .val (.long j2), .second, .val (.int i4)] [])) _
      refine XS.iload X0.here hx rfl (hb hby d1_100) rfl ?_
      show Steps p.tables e below (T0.setTop (mkF m 102 #[.val (.ref (n0 + ob0)), .val (.ref (n0 + ob1)), .val (.long j2), .second, .val (.int i4)] [(.int i4)])) _
      refine XS.aloadN X0.here hx rfl (hb hby d1_102) rfl rfl ?_
      show Steps p.tables e below (T0.setTop (mkF m 103 #[.val (.ref (n0 + ob0)), .val (.ref (n0 + ob1)), .val (.long j2), .second, .val (.int i4)] [(.ref (n0 + ob1)), (.int i4)])) _
      refine lenW' X0 hx hZ e0 O0 hx24 (ty := .int) rfl (g := (mkF m 103 #[.val (.ref (n0 + ob0)), .val (.ref (n0 + ob1)), .val (.long j2), .second, .val (.int i4)] [(.ref (n0 + ob1)), (.int i4)])) rfl rfl (hb hby d1_103) _ ?_
      exact k
    by_cases hc25 : i4 < x24
    · rw [if_pos hc25] at hf
      obtain ⟨x26, hx26, hf⟩ := own_bind hf
      obtain ⟨T27, X27, e27, st27⟩ := getF X0 hx hZ hown (host := "") (Or.inl (hw _ (List.mem_of_getElem? (i := 42) rfl))) Via.refl e0 (O0.fld (gR_e hx26) rfl rfl) (g := (mkF m 108 #[.val (.ref (n0 + ob0)), .val (.ref (n0 + ob1)), .val (.long j2), .second, .val (.int i4)] [(.ref (n0 + ob0))])) rfl rfl (hb hby d1_108)
      obtain ⟨x28, hx28, hf⟩ := own_bind hf
      obtain ⟨T29, X29, e29, st29⟩ := getF X27 hx hZ hown (host := "") (Or.inl (hw _ (List.mem_of_getElem? (i := 42) rfl))) Via.refl e27 (O0.fld (gR_e hx28) rfl rfl) (g := (mkF m 114 #[.val (.ref (n0 + ob0)), .val (.ref (n0 + ob1)), .val (.long j2), .second, .val (.int i4)] [(.ref (n0 + ob0)), (.int i4), (.ref (n0 + x26))])) rfl rfl (hb hby d1_114)
      obtain ⟨x30, hx30, hf⟩ := own_bind hf
      obtain ⟨x31, hx31, hf⟩ := own_bind hf
      obtain ⟨x32, hx32, hf⟩ := own_bind hf
      obtain ⟨T33, X33, e33, st33⟩ := getF X29 hx hZ hown (host := "") (Or.inl (hw _ (List.mem_of_getElem? (i := 40) rfl))) Via.refl e29 (O0.fld (gR_e hx32) rfl rfl) (g := (mkF m 129 #[.val (.ref (n0 + ob0)), .val (.ref (n0 + ob1)), .val (.long j2), .second, .val (.int i4)] [(.ref (n0 + ob0)), (.int x31), (.int x30), (.int i4), (.ref (n0 + x26))])) rfl rfl (hb hby d1_129)
      obtain ⟨x34, hx34, hf⟩ := own_bind hf
      obtain ⟨x35, hx35, hf⟩ := own_bind hf
      obtain ⟨x36, hx36, hf⟩ := own_bind hf
      obtain ⟨T37, X37, e37, st37⟩ := getF X33 hx hZ hown (host := "") (Or.inl (hw _ (List.mem_of_getElem? (i := 40) rfl))) Via.refl e33 (O0.fld (gR_e hx36) rfl rfl) (g := (mkF m 136 #[.val (.ref (n0 + ob0)), .val (.ref (n0 + ob1)), .val (.long j2), .second, .val (.int i4)] [(.ref (n0 + ob0)), (.int x35), (.int x31), (.int x30), (.int i4), (.ref (n0 + x26))])) rfl rfl (hb hby d1_136)
      obtain ⟨x38, hx38, hf⟩ := own_bind hf
      obtain ⟨D39, hq39, hf⟩ := own_bind hf
      obtain ⟨T39, h39, L39, X39, e39, O39, N39, st39⟩ := stIW X37 hx hZ e37 O0 N0 hq39 rfl (g := (mkF m 145 #[.val (.ref (n0 + ob0)), .val (.ref (n0 + ob1)), .val (.long j2), .second, .val (.int i4)] [(.int (x30 + (x31 * (x35 - x38)))), (.int i4), (.ref (n0 + x26))])) rfl rfl (hb hby d1_145)
      refine Gl.on (B := T39.setTop (mkF m 100 #[.val (.ref (n0 + ob0)), .val (.ref (n0 + ob1)), .val (.long j2), .second, .val (.int (i4 + (1 : Int32)))] [])) (fun t k => ?_) ?_
      · show Steps p.tables e below (T0.setTop (mkF m 104 #[.val (.ref (n0 + ob0)), .val (.ref (n0 + ob1)), .val (.long j2), .second, .val (.int i4)] [(.int x24), (.int i4)])) _
        refine XS.icmpNo X0.here hx rfl (hb hby d1_104) rfl (tlt hc25).2.1 ?_
        show Steps p.tables e below (T0.setTop (mkF m 107 #[.val (.ref (n0 + ob0)), .val (.ref (n0 + ob1)), .val (.long j2), .second, .val (.int i4)] [])) _
        refine XS.aloadN X0.here hx rfl (hb hby d1_107) rfl rfl ?_
        show Steps p.tables e below (T0.setTop (mkF m 108 #[.val (.ref (n0 + ob0)), .val (.ref (n0 + ob1)), .val (.long j2), .second, .val (.int i4)] [(.ref (n0 + ob0))])) _
        refine st27 _ ?_
        show Steps p.tables e below (T27.setTop (mkF m 111 #[.val (.ref (n0 + ob0)), .val (.ref (n0 + ob1)), .val (.long j2), .second, .val (.int i4)] [(.ref (n0 + x26))])) _
        refine XS.iload X27.here hx rfl (hb hby d1_111) rfl ?_
        show Steps p.tables e below (T27.setTop (mkF m 113 #[.val (.ref (n0 + ob0)), .val (.ref (n0 + ob1)), .val (.long j2), .second, .val (.int i4)] [(.int i4), (.ref (n0 + x26))])) _
        refine XS.aloadN X27.here hx rfl (hb hby d1_113) rfl rfl ?_
        show Steps p.tables e below (T27.setTop (mkF m 114 #[.val (.ref (n0 + ob0)), .val (.ref (n0 + ob1)), .val (.long j2), .second, .val (.int i4)] [(.ref (n0 + ob0)), (.int i4), (.ref (n0 + x26))])) _
        refine st29 _ ?_
        show Steps p.tables e below (T29.setTop (mkF m 117 #[.val (.ref (n0 + ob0)), .val (.ref (n0 + ob1)), .val (.long j2), .second, .val (.int i4)] [(.ref (n0 + x28)), (.int i4), (.ref (n0 + x26))])) _
        refine XS.iload X29.here hx rfl (hb hby d1_117) rfl ?_
        show Steps p.tables e below (T29.setTop (mkF m 119 #[.val (.ref (n0 + ob0)), .val (.ref (n0 + ob1)), .val (.long j2), .second, .val (.int i4)] [(.int i4), (.ref (n0 + x28)), (.int i4), (.ref (n0 + x26))])) _
        refine XS.iconst X29.here hx rfl (hb hby d1_119) ?_
        show Steps p.tables e below (T29.setTop (mkF m 120 #[.val (.ref (n0 + ob0)), .val (.ref (n0 + ob1)), .val (.long j2), .second, .val (.int i4)] [(.int (1 : Int32)), (.int i4), (.ref (n0 + x28)), (.int i4), (.ref (n0 + x26))])) _
        refine XS.isub X29.here hx rfl (hb hby d1_120) rfl ?_
        show Steps p.tables e below (T29.setTop (mkF m 121 #[.val (.ref (n0 + ob0)), .val (.ref (n0 + ob1)), .val (.long j2), .second, .val (.int i4)] [(.int (i4 - (1 : Int32))), (.ref (n0 + x28)), (.int i4), (.ref (n0 + x26))])) _
        refine ldW X29 hx hZ e29 O0 hx30 rfl (g := (mkF m 121 #[.val (.ref (n0 + ob0)), .val (.ref (n0 + ob1)), .val (.long j2), .second, .val (.int i4)] [(.int (i4 - (1 : Int32))), (.ref (n0 + x28)), (.int i4), (.ref (n0 + x26))])) rfl rfl (hb hby d1_121) _ ?_
        show Steps p.tables e below (T29.setTop (mkF m 122 #[.val (.ref (n0 + ob0)), .val (.ref (n0 + ob1)), .val (.long j2), .second, .val (.int i4)] [(.int x30), (.int i4), (.ref (n0 + x26))])) _
        refine XS.aloadN X29.here hx rfl (hb hby d1_122) rfl rfl ?_
        show Steps p.tables e below (T29.setTop (mkF m 123 #[.val (.ref (n0 + ob0)), .val (.ref (n0 + ob1)), .val (.long j2), .second, .val (.int i4)] [(.ref (n0 + ob1)), (.int x30), (.int i4), (.ref (n0 + x26))])) _
        refine XS.iload X29.here hx rfl (hb hby d1_123) rfl ?_
        show Steps p.tables e below (T29.setTop (mkF m 125 #[.val (.ref (n0 + ob0)), .val (.ref (n0 + ob1)), .val (.long j2), .second, .val (.int i4)] [(.int i4), (.ref (n0 + ob1)), (.int x30), (.int i4), (.ref (n0 + x26))])) _
        refine XS.iconst X29.here hx rfl (hb hby d1_125) ?_
        show Steps p.tables e below (T29.setTop (mkF m 126 #[.val (.ref (n0 + ob0)), .val (.ref (n0 + ob1)), .val (.long j2), .second, .val (.int i4)] [(.int (1 : Int32)), (.int i4), (.ref (n0 + ob1)), (.int x30), (.int i4), (.ref (n0 + x26))])) _
        refine XS.isub X29.here hx rfl (hb hby d1_126) rfl ?_
        show Steps p.tables e below (T29.setTop (mkF m 127 #[.val (.ref (n0 + ob0)), .val (.ref (n0 + ob1)), .val (.long j2), .second, .val (.int i4)] [(.int (i4 - (1 : Int32))), (.ref (n0 + ob1)), (.int x30), (.int i4), (.ref (n0 + x26))])) _
        refine ldW X29 hx hZ e29 O0 hx31 rfl (g := (mkF m 127 #[.val (.ref (n0 + ob0)), .val (.ref (n0 + ob1)), .val (.long j2), .second, .val (.int i4)] [(.int (i4 - (1 : Int32))), (.ref (n0 + ob1)), (.int x30), (.int i4), (.ref (n0 + x26))])) rfl rfl (hb hby d1_127) _ ?_
        show Steps p.tables e below (T29.setTop (mkF m 128 #[.val (.ref (n0 + ob0)), .val (.ref (n0 + ob1)), .val (.long j2), .second, .val (.int i4)] [(.int x31), (.int x30), (.int i4), (.ref (n0 + x26))])) _
        refine XS.aloadN X29.here hx rfl (hb hby d1_128) rfl rfl ?_
        show Steps p.tables e below (T29.setTop (mkF m 129 #[.val (.ref (n0 + ob0)), .val (.ref (n0 + ob1)), .val (.long j2), .second, .val (.int i4)] [(.ref (n0 + ob0)), (.int x31), (.int x30), (.int i4), (.ref (n0 + x26))])) _
        refine st33 _ ?_
        show Steps p.tables e below (T33.setTop (mkF m 132 #[.val (.ref (n0 + ob0)), .val (.ref (n0 + ob1)), .val (.long j2), .second, .val (.int i4)] [(.ref (n0 + x32)), (.int x31), (.int x30), (.int i4), (.ref (n0 + x26))])) _
        refine XS.aloadN X33.here hx rfl (hb hby d1_132) rfl rfl ?_
        show Steps p.tables e below (T33.setTop (mkF m 133 #[.val (.ref (n0 + ob0)), .val (.ref (n0 + ob1)), .val (.long j2), .second, .val (.int i4)] [(.ref (n0 + ob1)), (.ref (n0 + x32)), (.int x31), (.int x30), (.int i4), (.ref (n0 + x26))])) _
        refine lenW' X33 hx hZ e33 O0 hx34 (ty := .int) rfl (g := (mkF m 133 #[.val (.ref (n0 + ob0)), .val (.ref (n0 + ob1)), .val (.long j2), .second, .val (.int i4)] [(.ref (n0 + ob1)), (.ref (n0 + x32)), (.int x31), (.int x30), (.int i4), (.ref (n0 + x26))])) rfl rfl (hb hby d1_133) _ ?_
        show Steps p.tables e below (T33.setTop (mkF m 134 #[.val (.ref (n0 + ob0)), .val (.ref (n0 + ob1)), .val (.long j2), .second, .val (.int i4)] [(.int x34), (.ref (n0 + x32)), (.int x31), (.int x30), (.int i4), (.ref (n0 + x26))])) _
        refine ldW X33 hx hZ e33 O0 hx35 rfl (g := (mkF m 134 #[.val (.ref (n0 + ob0)), .val (.ref (n0 + ob1)), .val (.long j2), .second, .val (.int i4)] [(.int x34), (.ref (n0 + x32)), (.int x31), (.int x30), (.int i4), (.ref (n0 + x26))])) rfl rfl (hb hby d1_134) _ ?_
        show Steps p.tables e below (T33.setTop (mkF m 135 #[.val (.ref (n0 + ob0)), .val (.ref (n0 + ob1)), .val (.long j2), .second, .val (.int i4)] [(.int x35), (.int x31), (.int x30), (.int i4), (.ref (n0 + x26))])) _
        refine XS.aloadN X33.here hx rfl (hb hby d1_135) rfl rfl ?_
        show Steps p.tables e below (T33.setTop (mkF m 136 #[.val (.ref (n0 + ob0)), .val (.ref (n0 + ob1)), .val (.long j2), .second, .val (.int i4)] [(.ref (n0 + ob0)), (.int x35), (.int x31), (.int x30), (.int i4), (.ref (n0 + x26))])) _
        refine st37 _ ?_
        show Steps p.tables e below (T37.setTop (mkF m 139 #[.val (.ref (n0 + ob0)), .val (.ref (n0 + ob1)), .val (.long j2), .second, .val (.int i4)] [(.ref (n0 + x36)), (.int x35), (.int x31), (.int x30), (.int i4), (.ref (n0 + x26))])) _
        refine XS.iload X37.here hx rfl (hb hby d1_139) rfl ?_
        show Steps p.tables e below (T37.setTop (mkF m 141 #[.val (.ref (n0 + ob0)), .val (.ref (n0 + ob1)), .val (.long j2), .second, .val (.int i4)] [(.int i4), (.ref (n0 + x36)), (.int x35), (.int x31), (.int x30), (.int i4), (.ref (n0 + x26))])) _
        refine ldW X37 hx hZ e37 O0 hx38 rfl (g := (mkF m 141 #[.val (.ref (n0 + ob0)), .val (.ref (n0 + ob1)), .val (.long j2), .second, .val (.int i4)] [(.int i4), (.ref (n0 + x36)), (.int x35), (.int x31), (.int x30), (.int i4), (.ref (n0 + x26))])) rfl rfl (hb hby d1_141) _ ?_
        show Steps p.tables e below (T37.setTop (mkF m 142 #[.val (.ref (n0 + ob0)), .val (.ref (n0 + ob1)), .val (.long j2), .second, .val (.int i4)] [(.int x38), (.int x35), (.int x31), (.int x30), (.int i4), (.ref (n0 + x26))])) _
        refine XS.isub X37.here hx rfl (hb hby d1_142) rfl ?_
        show Steps p.tables e below (T37.setTop (mkF m 143 #[.val (.ref (n0 + ob0)), .val (.ref (n0 + ob1)), .val (.long j2), .second, .val (.int i4)] [(.int (x35 - x38)), (.int x31), (.int x30), (.int i4), (.ref (n0 + x26))])) _
        refine XS.imul X37.here hx rfl (hb hby d1_143) rfl ?_
        show Steps p.tables e below (T37.setTop (mkF m 144 #[.val (.ref (n0 + ob0)), .val (.ref (n0 + ob1)), .val (.long j2), .second, .val (.int i4)] [(.int (x31 * (x35 - x38))), (.int x30), (.int i4), (.ref (n0 + x26))])) _
        refine XS.iadd X37.here hx rfl (hb hby d1_144) rfl ?_
        show Steps p.tables e below (T37.setTop (mkF m 145 #[.val (.ref (n0 + ob0)), .val (.ref (n0 + ob1)), .val (.long j2), .second, .val (.int i4)] [(.int (x30 + (x31 * (x35 - x38)))), (.int i4), (.ref (n0 + x26))])) _
        refine st39 _ ?_
        show Steps p.tables e below (T39.setTop (mkF m 146 #[.val (.ref (n0 + ob0)), .val (.ref (n0 + ob1)), .val (.long j2), .second, .val (.int i4)] [])) _
        refine XS.iinc X39.here hx rfl (hb hby d1_146) rfl (l' := #[.val (.ref (n0 + ob0)), .val (.ref (n0 + ob1)), .val (.long j2), .second, .val (.int (i4 + (1 : Int32)))]) rfl ?_
        show Steps p.tables e below (T39.setTop (mkF m 149 #[.val (.ref (n0 + ob0)), .val (.ref (n0 + ob1)), .val (.long j2), .second, .val (.int (i4 + (1 : Int32)))] [])) _
        refine XS.goto X39.here hx rfl (pc0 := 149) (pc' := 100) rfl (hb hby d1_149) (by decide) (by decide) ?_
        exact k
      exact ih X39 e39 O39 N39 (by omega) (by omega) hf
    · rw [if_neg hc25] at hf
      obtain ⟨D40, hq40, hf⟩ := own_bind hf
      obtain ⟨T40, h40, L40, X40, e40, O40, N40, st40⟩ := putW X0 hx hZ hown (hw _ (List.mem_of_getElem? (i := 44) rfl)) (lay1 hw) e0 O0 N0 hq40 rfl rfl (Or.inr ⟨(hw _ (List.mem_of_getElem? (i := 45) rfl)), rfl, hnm⟩) (hw _ (List.mem_of_getElem? (i := 3) rfl)) (ty := .int) (by decide) rfl rfl (g := (mkF m 155 #[.val (.ref (n0 + ob0)), .val (.ref (n0 + ob1)), .val (.long j2), .second, .val (.int i4)] [(.int (j2.toInt32)), (.ref (n0 + ob0))])) rfl rfl (hb hby d1_155)
      refine Gl.on (B := T40.setTop (mkF m 158 #[.val (.ref (n0 + ob0)), .val (.ref (n0 + ob1)), .val (.long j2), .second, .val (.int i4)] [])) (fun t k => ?_) ?_
      · show Steps p.tables e below (T0.setTop (mkF m 104 #[.val (.ref (n0 + ob0)), .val (.ref (n0 + ob1)), .val (.long j2), .second, .val (.int i4)] [(.int x24), (.int i4)])) _
        refine XS.icmpYes X0.here hx rfl (pc0 := 104) (pc' := 152) rfl (hb hby d1_104) rfl (flt hc25).2.1 (by decide) (by decide) ?_
        show Steps p.tables e below (T0.setTop (mkF m 152 #[.val (.ref (n0 + ob0)), .val (.ref (n0 + ob1)), .val (.long j2), .second, .val (.int i4)] [])) _
        refine XS.aloadN X0.here hx rfl (hb hby d1_152) rfl rfl ?_
        show Steps p.tables e below (T0.setTop (mkF m 153 #[.val (.ref (n0 + ob0)), .val (.ref (n0 + ob1)), .val (.long j2), .second, .val (.int i4)] [(.ref (n0 + ob0))])) _
        refine XS.lloadN X0.here hx rfl (hb hby d1_153) rfl ?_
        show Steps p.tables e below (T0.setTop (mkF m 154 #[.val (.ref (n0 + ob0)), .val (.ref (n0 + ob1)), .val (.long j2), .second, .val (.int i4)] [(.long j2), (.ref (n0 + ob0))])) _
        refine XS.l2i X0.here hx rfl (hb hby d1_154) rfl ?_
        show Steps p.tables e below (T0.setTop (mkF m 155 #[.val (.ref (n0 + ob0)), .val (.ref (n0 + ob1)), .val (.long j2), .second, .val (.int i4)] [(.int (j2.toInt32)), (.ref (n0 + ob0))])) _
        refine st40 _ ?_
        exact k
      obtain rfl := own_inj1 hf
      exact Gl.outV X40 hx hlk hret (hb hby d1_158) ⟨rfl, N40, by rw [e40]; exact O40⟩ (by show _ ≤ 3; omega) (by show _ ≤ 24; omega)
def b1_55 : Nat → Hp → Nat → Nat → Int64 → Int32 → Option (Hp)
  | 0, _, _, _, _, _ => none
  | fu + 1, D, ob0, ob1, j2, i4 =>
  (lA D ob1 0).bind fun x12 =>
  if i4 < x12 then ((gR D ob0 1 1).bind fun x14 =>
  (gR D ob0 1 1).bind fun x16 =>
  (rI D x16 0 i4).bind fun x18 =>
  (rI D ob1 0 i4).bind fun x19 =>
  (wV D x14 0 (i4 + (1 : Int32)) (.int (x18 + x19))).bind fun D20 =>
  b1_55 fu D20 ob0 ob1 j2 (i4 + (1 : Int32))) else ((lA D ob1 0).bind fun x21 =>
  own_let (D.length) fun a22 => (nA D 0 x21 8 (.int (0 : Int32))).bind fun D22 =>
  (pV D22 ob0 1 2 (.ref a22)).bind fun D23 =>
  b1_100 12 D23 ob0 ob1 j2 (1 : Int32))
set_option maxRecDepth 65536 in
set_option maxHeartbeats 40000000 in
theorem bt1_55 {p : Program} {l : Launch} {e : Env} {s : State} {m : MethodId} {args : Array Value} {below : List Frame} {meth : Method} {c : Code} {Z : State} {a0 : Array Value} {n0 : Nat} {D' : Hp} (hw : ∀ d ∈ tables_1, d.before a0 Z = true) (hC : Cx p s m meth c Z prog_16_method_1_code 5 none "com/example/pathweave/pathweave/core/PairIndex" "<init>") (fu : Nat) : ∀ {T0 : State} {locs : List Loc} {cells slots : Nat} {h0 : Heap} {D : Hp} {ob0 : Nat} {ob1 : Nat} {j2 : Int64} {i4 : Int32}, (Stand p l e ({ frames := 4, cells := 3, slots := 24, locals := 71 } : Room) s m args below meth c T0 locs cells slots) → (T0.heap = h0) → (Ow Kt1 Z h0 n0 D) → (Fr n0 locs) → (cells ≤ 2) → (slots ≤ 16) → (b1_55 fu D ob0 ob1 j2 i4 = some D') → Gl p e below s 3 24 (Qw Kt1 Z n0 none D') (T0.setTop (mkF m 55 #[.val (.ref (n0 + ob0)), .val (.ref (n0 + ob1)), .val (.long j2), .second, .val (.int i4)] [])) := by
  obtain ⟨hx, hZ, hby, hml, hown, hnm, hret, hlk⟩ := id hC
  have hml : c.maxLocals = 5 := hml
  induction fu with
  | zero => intro T0 locs cells slots h0 D ob0 ob1 j2 i4 X0 e0 O0 N0 hcc hss hf; cases hf
  | succ fu ih =>
    intro T0 locs cells slots h0 D ob0 ob1 j2 i4 X0 e0 O0 N0 hcc hss hf
    rw [b1_55] at hf
    obtain ⟨x12, hx12, hf⟩ := own_bind hf
    refine Gl.on (B := T0.setTop (mkF m 59 #[.val (.ref (n0 + ob0)), .val (.ref (n0 + ob1)), .val (.long j2), .second, .val (.int i4)] [(.int x12), (.int i4)])) (fun t k => ?_) ?_
    · show Steps p.tables e below (T0.setTop (mkF m 55 #[.val (.ref (n0 + ob0)), .val (.ref (n0 + ob1)), .val (.long j2), .second, .val (.int i4)] [])) _
      refine XS.iload X0.here hx rfl (hb hby d1_55) rfl ?_
      show Steps p.tables e below (T0.setTop (mkF m 57 #[.val (.ref (n0 + ob0)), .val (.ref (n0 + ob1)), .val (.long j2), .second, .val (.int i4)] [(.int i4)])) _
      refine XS.aloadN X0.here hx rfl (hb hby d1_57) rfl rfl ?_
      show Steps p.tables e below (T0.setTop (mkF m 58 #[.val (.ref (n0 + ob0)), .val (.ref (n0 + ob1)), .val (.long j2), .second, .val (.int i4)] [(.ref (n0 + ob1)), (.int i4)])) _
      refine lenW' X0 hx hZ e0 O0 hx12 (ty := .int) rfl (g := (mkF m 58 #[.val (.ref (n0 + ob0)), .val (.ref (n0 + ob1)), .val (.long j2), .second, .val (.int i4)] [(.ref (n0 + ob1)), (.int i4)])) rfl rfl (hb hby d1_58) _ ?_
      exact k
    by_cases hc13 : i4 < x12
    · rw [if_pos hc13] at hf
      obtain ⟨x14, hx14, hf⟩ := own_bind hf
      obtain ⟨T15, X15, e15, st15⟩ := getF X0 hx hZ hown (host := "") (Or.inl (hw _ (List.mem_of_getElem? (i := 40) rfl))) Via.refl e0 (O0.fld (gR_e hx14) rfl rfl) (g := (mkF m 63 #[.val (.ref (n0 + ob0)), .val (.ref (n0 + ob1)), .val (.long j2), .second, .val (.int i4)] [(.ref (n0 + ob0))])) rfl rfl (hb hby d1_63)
      obtain ⟨x16, hx16, hf⟩ := own_bind hf
      obtain ⟨T17, X17, e17, st17⟩ := getF X15 hx hZ hown (host := "") (Or.inl (hw _ (List.mem_of_getElem? (i := 40) rfl))) Via.refl e15 (O0.fld (gR_e hx16) rfl rfl) (g := (mkF m 71 #[.val (.ref (n0 + ob0)), .val (.ref (n0 + ob1)), .val (.long j2), .second, .val (.int i4)] [(.ref (n0 + ob0)), (.int (i4 + (1 : Int32))), (.ref (n0 + x14))])) rfl rfl (hb hby d1_71)
      obtain ⟨x18, hx18, hf⟩ := own_bind hf
      obtain ⟨x19, hx19, hf⟩ := own_bind hf
      obtain ⟨D20, hq20, hf⟩ := own_bind hf
      obtain ⟨T20, h20, L20, X20, e20, O20, N20, st20⟩ := stIW X17 hx hZ e17 O0 N0 hq20 rfl (g := (mkF m 82 #[.val (.ref (n0 + ob0)), .val (.ref (n0 + ob1)), .val (.long j2), .second, .val (.int i4)] [(.int (x18 + x19)), (.int (i4 + (1 : Int32))), (.ref (n0 + x14))])) rfl rfl (hb hby d1_82)
      refine Gl.on (B := T20.setTop (mkF m 55 #[.val (.ref (n0 + ob0)), .val (.ref (n0 + ob1)), .val (.long j2), .second, .val (.int (i4 + (1 : Int32)))] [])) (fun t k => ?_) ?_
      · show Steps p.tables e below (T0.setTop (mkF m 59 #[.val (.ref (n0 + ob0)), .val (.ref (n0 + ob1)), .val (.long j2), .second, .val (.int i4)] [(.int x12), (.int i4)])) _
        refine XS.icmpNo X0.here hx rfl (hb hby d1_59) rfl (tlt hc13).2.1 ?_
        show Steps p.tables e below (T0.setTop (mkF m 62 #[.val (.ref (n0 + ob0)), .val (.ref (n0 + ob1)), .val (.long j2), .second, .val (.int i4)] [])) _
        refine XS.aloadN X0.here hx rfl (hb hby d1_62) rfl rfl ?_
        show Steps p.tables e below (T0.setTop (mkF m 63 #[.val (.ref (n0 + ob0)), .val (.ref (n0 + ob1)), .val (.long j2), .second, .val (.int i4)] [(.ref (n0 + ob0))])) _
        refine st15 _ ?_
        show Steps p.tables e below (T15.setTop (mkF m 66 #[.val (.ref (n0 + ob0)), .val (.ref (n0 + ob1)), .val (.long j2), .second, .val (.int i4)] [(.ref (n0 + x14))])) _
        refine XS.iload X15.here hx rfl (hb hby d1_66) rfl ?_
        show Steps p.tables e below (T15.setTop (mkF m 68 #[.val (.ref (n0 + ob0)), .val (.ref (n0 + ob1)), .val (.long j2), .second, .val (.int i4)] [(.int i4), (.ref (n0 + x14))])) _
        refine XS.iconst X15.here hx rfl (hb hby d1_68) ?_
        show Steps p.tables e below (T15.setTop (mkF m 69 #[.val (.ref (n0 + ob0)), .val (.ref (n0 + ob1)), .val (.long j2), .second, .val (.int i4)] [(.int (1 : Int32)), (.int i4), (.ref (n0 + x14))])) _
        refine XS.iadd X15.here hx rfl (hb hby d1_69) rfl ?_
        show Steps p.tables e below (T15.setTop (mkF m 70 #[.val (.ref (n0 + ob0)), .val (.ref (n0 + ob1)), .val (.long j2), .second, .val (.int i4)] [(.int (i4 + (1 : Int32))), (.ref (n0 + x14))])) _
        refine XS.aloadN X15.here hx rfl (hb hby d1_70) rfl rfl ?_
        show Steps p.tables e below (T15.setTop (mkF m 71 #[.val (.ref (n0 + ob0)), .val (.ref (n0 + ob1)), .val (.long j2), .second, .val (.int i4)] [(.ref (n0 + ob0)), (.int (i4 + (1 : Int32))), (.ref (n0 + x14))])) _
        refine st17 _ ?_
        show Steps p.tables e below (T17.setTop (mkF m 74 #[.val (.ref (n0 + ob0)), .val (.ref (n0 + ob1)), .val (.long j2), .second, .val (.int i4)] [(.ref (n0 + x16)), (.int (i4 + (1 : Int32))), (.ref (n0 + x14))])) _
        refine XS.iload X17.here hx rfl (hb hby d1_74) rfl ?_
        show Steps p.tables e below (T17.setTop (mkF m 76 #[.val (.ref (n0 + ob0)), .val (.ref (n0 + ob1)), .val (.long j2), .second, .val (.int i4)] [(.int i4), (.ref (n0 + x16)), (.int (i4 + (1 : Int32))), (.ref (n0 + x14))])) _
        refine ldW X17 hx hZ e17 O0 hx18 rfl (g := (mkF m 76 #[.val (.ref (n0 + ob0)), .val (.ref (n0 + ob1)), .val (.long j2), .second, .val (.int i4)] [(.int i4), (.ref (n0 + x16)), (.int (i4 + (1 : Int32))), (.ref (n0 + x14))])) rfl rfl (hb hby d1_76) _ ?_
        show Steps p.tables e below (T17.setTop (mkF m 77 #[.val (.ref (n0 + ob0)), .val (.ref (n0 + ob1)), .val (.long j2), .second, .val (.int i4)] [(.int x18), (.int (i4 + (1 : Int32))), (.ref (n0 + x14))])) _
        refine XS.aloadN X17.here hx rfl (hb hby d1_77) rfl rfl ?_
        show Steps p.tables e below (T17.setTop (mkF m 78 #[.val (.ref (n0 + ob0)), .val (.ref (n0 + ob1)), .val (.long j2), .second, .val (.int i4)] [(.ref (n0 + ob1)), (.int x18), (.int (i4 + (1 : Int32))), (.ref (n0 + x14))])) _
        refine XS.iload X17.here hx rfl (hb hby d1_78) rfl ?_
        show Steps p.tables e below (T17.setTop (mkF m 80 #[.val (.ref (n0 + ob0)), .val (.ref (n0 + ob1)), .val (.long j2), .second, .val (.int i4)] [(.int i4), (.ref (n0 + ob1)), (.int x18), (.int (i4 + (1 : Int32))), (.ref (n0 + x14))])) _
        refine ldW X17 hx hZ e17 O0 hx19 rfl (g := (mkF m 80 #[.val (.ref (n0 + ob0)), .val (.ref (n0 + ob1)), .val (.long j2), .second, .val (.int i4)] [(.int i4), (.ref (n0 + ob1)), (.int x18), (.int (i4 + (1 : Int32))), (.ref (n0 + x14))])) rfl rfl (hb hby d1_80) _ ?_
        show Steps p.tables e below (T17.setTop (mkF m 81 #[.val (.ref (n0 + ob0)), .val (.ref (n0 + ob1)), .val (.long j2), .second, .val (.int i4)] [(.int x19), (.int x18), (.int (i4 + (1 : Int32))), (.ref (n0 + x14))])) _
        refine XS.iadd X17.here hx rfl (hb hby d1_81) rfl ?_
        show Steps p.tables e below (T17.setTop (mkF m 82 #[.val (.ref (n0 + ob0)), .val (.ref (n0 + ob1)), .val (.long j2), .second, .val (.int i4)] [(.int (x18 + x19)), (.int (i4 + (1 : Int32))), (.ref (n0 + x14))])) _
        refine st20 _ ?_
        show Steps p.tables e below (T20.setTop (mkF m 83 #[.val (.ref (n0 + ob0)), .val (.ref (n0 + ob1)), .val (.long j2), .second, .val (.int i4)] [])) _
        refine XS.iinc X20.here hx rfl (hb hby d1_83) rfl (l' := #[.val (.ref (n0 + ob0)), .val (.ref (n0 + ob1)), .val (.long j2), .second, .val (.int (i4 + (1 : Int32)))]) rfl ?_
        show Steps p.tables e below (T20.setTop (mkF m 86 #[.val (.ref (n0 + ob0)), .val (.ref (n0 + ob1)), .val (.long j2), .second, .val (.int (i4 + (1 : Int32)))] [])) _
        refine XS.goto X20.here hx rfl (pc0 := 86) (pc' := 55) rfl (hb hby d1_86) (by decide) (by decide) ?_
        exact k
      exact ih X20 e20 O20 N20 (by omega) (by omega) hf
    · rw [if_neg hc13] at hf
      obtain ⟨x21, hx21, hf⟩ := own_bind hf
      obtain ⟨a22, ha22, hf⟩ := own_letE hf
      obtain ⟨D22, hD22, hf⟩ := own_bind hf
      obtain ⟨T22, h22, X22, e22, O22, st22⟩ := newAW X0 hx hZ (aty := .int) (hw _ (List.mem_of_getElem? (i := 1) rfl)) e0 O0 rfl rfl hD22 (g := (mkF m 92 #[.val (.ref (n0 + ob0)), .val (.ref (n0 + ob1)), .val (.long j2), .second, .val (.int i4)] [(.int x21), (.ref (n0 + ob0))])) rfl (hb hby d1_92) rfl (by decide) (by show _ + 1 ≤ 3; omega) (by show _ + 8 ≤ 24; omega)
      rw [ha22] at st22
      obtain ⟨D23, hq23, hf⟩ := own_bind hf
      obtain ⟨T23, h23, L23, X23, e23, O23, N23, st23⟩ := putW X22 hx hZ hown (hw _ (List.mem_of_getElem? (i := 42) rfl)) (lay1 hw) e22 O22 N0 hq23 rfl rfl (Or.inr ⟨(hw _ (List.mem_of_getElem? (i := 43) rfl)), rfl, hnm⟩) (hw _ (List.mem_of_getElem? (i := 3) rfl)) (ty := (.array .int)) (by decide) rfl rfl (g := (mkF m 94 #[.val (.ref (n0 + ob0)), .val (.ref (n0 + ob1)), .val (.long j2), .second, .val (.int i4)] [(.ref (n0 + a22)), (.ref (n0 + ob0))])) rfl rfl (hb hby d1_94)
      refine Gl.on (B := T23.setTop (mkF m 100 #[.val (.ref (n0 + ob0)), .val (.ref (n0 + ob1)), .val (.long j2), .second, .val (.int (1 : Int32))] [])) (fun t k => ?_) ?_
      · show Steps p.tables e below (T0.setTop (mkF m 59 #[.val (.ref (n0 + ob0)), .val (.ref (n0 + ob1)), .val (.long j2), .second, .val (.int i4)] [(.int x12), (.int i4)])) _
        refine XS.icmpYes X0.here hx rfl (pc0 := 59) (pc' := 89) rfl (hb hby d1_59) rfl (flt hc13).2.1 (by decide) (by decide) ?_
        show Steps p.tables e below (T0.setTop (mkF m 89 #[.val (.ref (n0 + ob0)), .val (.ref (n0 + ob1)), .val (.long j2), .second, .val (.int i4)] [])) _
        refine XS.aloadN X0.here hx rfl (hb hby d1_89) rfl rfl ?_
        show Steps p.tables e below (T0.setTop (mkF m 90 #[.val (.ref (n0 + ob0)), .val (.ref (n0 + ob1)), .val (.long j2), .second, .val (.int i4)] [(.ref (n0 + ob0))])) _
        refine XS.aloadN X0.here hx rfl (hb hby d1_90) rfl rfl ?_
        show Steps p.tables e below (T0.setTop (mkF m 91 #[.val (.ref (n0 + ob0)), .val (.ref (n0 + ob1)), .val (.long j2), .second, .val (.int i4)] [(.ref (n0 + ob1)), (.ref (n0 + ob0))])) _
        refine lenW' X0 hx hZ e0 O0 hx21 (ty := .int) rfl (g := (mkF m 91 #[.val (.ref (n0 + ob0)), .val (.ref (n0 + ob1)), .val (.long j2), .second, .val (.int i4)] [(.ref (n0 + ob1)), (.ref (n0 + ob0))])) rfl rfl (hb hby d1_91) _ ?_
        show Steps p.tables e below (T0.setTop (mkF m 92 #[.val (.ref (n0 + ob0)), .val (.ref (n0 + ob1)), .val (.long j2), .second, .val (.int i4)] [(.int x21), (.ref (n0 + ob0))])) _
        refine st22 _ ?_
        show Steps p.tables e below (T22.setTop (mkF m 94 #[.val (.ref (n0 + ob0)), .val (.ref (n0 + ob1)), .val (.long j2), .second, .val (.int i4)] [(.ref (n0 + a22)), (.ref (n0 + ob0))])) _
        refine st23 _ ?_
        show Steps p.tables e below (T23.setTop (mkF m 97 #[.val (.ref (n0 + ob0)), .val (.ref (n0 + ob1)), .val (.long j2), .second, .val (.int i4)] [])) _
        refine XS.iconst X23.here hx rfl (hb hby d1_97) ?_
        show Steps p.tables e below (T23.setTop (mkF m 98 #[.val (.ref (n0 + ob0)), .val (.ref (n0 + ob1)), .val (.long j2), .second, .val (.int i4)] [(.int (1 : Int32))])) _
        refine XS.istore X23.here hx rfl (hb hby d1_98) rfl (l' := #[.val (.ref (n0 + ob0)), .val (.ref (n0 + ob1)), .val (.long j2), .second, .val (.int (1 : Int32))]) rfl ?_
        exact k
      exact bt1_100 hw hC 12 X23 e23 O23 N23 (by omega) (by omega) hf
def f1 (D : Hp) (ob0 : Nat) (ob1 : Nat) : Option (Hp) :=
  (f3 D ob1).bind fun q2 => own_let q2.1 fun x3 => own_let q2.2 fun D2 =>
  if (10000000 : Int64) < x3 then (none) else (own_let (D2.length) fun a5 => (cA' D2 ob1 0 8).bind fun D5 =>
  (ck D5 a5 0).bind fun u7 => (pV D5 ob0 1 0 (.ref a5)).bind fun D8 =>
  (lA D8 ob1 0).bind fun x9 =>
  own_let (D8.length) fun a10 => (nA D8 0 (x9 + (1 : Int32)) 8 (.int (0 : Int32))).bind fun D10 =>
  (pV D10 ob0 1 1 (.ref a10)).bind fun D11 =>
  b1_55 12 D11 ob0 ob1 x3 (0 : Int32))
theorem ef_1 (m : MethodId) (n0 : Nat) (ob0 : Nat) (ob1 : Nat) : entryFrame m #[(.ref (n0 + ob0)), (.ref (n0 + ob1))] 5 = mkF m 0 #[.val (.ref (n0 + ob0)), .val (.ref (n0 + ob1)), .unset, .unset, .unset] [] := by first | (simp [entryFrame, mkF, argsToLocals, Value.category]; done) | rfl
set_option maxRecDepth 65536 in
set_option maxHeartbeats 40000000 in
theorem ct1 {l : Launch} {Z : State} {a0 : Array Value} (hw : ∀ d ∈ tables_1, d.before a0 Z = true) {n0 : Nat} {D D' : Hp} {ob0 : Nat} {ob1 : Nat} (hf : f1 D ob0 ob1 = some D') :
    Ct Kt1 l Z (⟨"com/example/pathweave/pathweave/core/PairIndex", "<init>", "([I)V"⟩ : MethodName) (.code (⟨"com/example/pathweave/pathweave/core/PairIndex", "<init>", "([I)V"⟩ : MethodName) prog_16_method_1_code 5 none) ({ frames := 4, cells := 3, slots := 24, locals := 71 } : Room) n0 D #[(.ref (n0 + ob0)), (.ref (n0 + ob1))] none D' := by
  refine Ct.of (plainFor_of_name pn_1) ?_
  intro p e s m below meth c T0 h0 hC X0 e0 O0
  obtain ⟨hx, hZ, hby, hml, hown, hnm, hret, hlk⟩ := id hC
  have hml : c.maxLocals = 5 := hml
  have hown : s.vm.findClass "com/example/pathweave/pathweave/core/PairIndex" = some m.cls := hown
  have hnm : meth.name = "<init>" := hnm
  have N0 := Fr.nil n0
  refine Gl.on (fun t k => castTop (ef_1 m n0 ob0 ob1) k) ?_
  rw [f1] at hf
  obtain ⟨T1, X1, e1, st1⟩ := initO X0 hx hZ hown (hw _ (List.mem_of_getElem? (i := 8) rfl)) (hw _ (List.mem_of_getElem? (i := 9) rfl)) (hw _ (List.mem_of_getElem? (i := 10) rfl)) e0 (g := (mkF m 1 #[.val (.ref (n0 + ob0)), .val (.ref (n0 + ob1)), .unset, .unset, .unset] [(.ref (n0 + ob0))])) rfl (by rw [hml]; rfl) rfl (hb hby d1_1) (by decide) (W := 0) (by show 2 * 0 + _ ≤ _; exact Nat.le_of_eq rfl) (by decide)
  obtain ⟨⟨x3, D2⟩, hq2, hf⟩ := own_bind hf
  obtain ⟨_, rfl, hf⟩ := own_letE hf
  obtain ⟨_, rfl, hf⟩ := own_letE hf
  obtain ⟨T2, h2, L2, X2, e2, O2, N2, st2⟩ := callSHW X1 hx hZ (y := (⟨"com/example/pathweave/pathweave/core/Pairwise", "pairCount", "([I)J"⟩ : MethodName)) hown (hw _ (List.mem_of_getElem? (i := 11) rfl)) (hw _ (List.mem_of_getElem? (i := 12) rfl)) (hw _ (List.mem_of_getElem? (i := 13) rfl)) (hw _ (List.mem_of_getElem? (i := 14) rfl)) (by decide) e1 O0 N0 (as' := [(.ref (n0 + ob1))]) (ct3 hw hq2) (W := 0) (kc := 0) (ks := 0) rfl rfl (by decide) (by decide) (g := (mkF m 5 #[.val (.ref (n0 + ob0)), .val (.ref (n0 + ob1)), .unset, .unset, .unset] [(.ref (n0 + ob1))])) rfl (by rw [hml]; rfl) (rest := []) (lenOf pd_3 rfl) rfl (by show 2 * 0 + _ ≤ _; exact Nat.le_of_eq rfl) (hb hby d1_5) (by show _ + 0 ≤ 3; omega) (by show _ + 0 ≤ 24; omega)
  refine Gl.on (B := T2.setTop (mkF m 14 #[.val (.ref (n0 + ob0)), .val (.ref (n0 + ob1)), .val (.long x3), .second, .unset] [(.int (lcmpW x3 (10000000 : Int64)))])) (fun t k => ?_) ?_
  · show Steps p.tables e below (T0.setTop (mkF m 0 #[.val (.ref (n0 + ob0)), .val (.ref (n0 + ob1)), .unset, .unset, .unset] [])) _
    refine XS.aloadN X0.here hx rfl (hb hby d1_0) rfl rfl ?_
    show Steps p.tables e below (T0.setTop (mkF m 1 #[.val (.ref (n0 + ob0)), .val (.ref (n0 + ob1)), .unset, .unset, .unset] [(.ref (n0 + ob0))])) _
    refine st1 _ ?_
    show Steps p.tables e below (T1.setTop (mkF m 4 #[.val (.ref (n0 + ob0)), .val (.ref (n0 + ob1)), .unset, .unset, .unset] [])) _
    refine XS.aloadN X1.here hx rfl (hb hby d1_4) rfl rfl ?_
    show Steps p.tables e below (T1.setTop (mkF m 5 #[.val (.ref (n0 + ob0)), .val (.ref (n0 + ob1)), .unset, .unset, .unset] [(.ref (n0 + ob1))])) _
    refine st2 _ ?_
    show Steps p.tables e below (T2.setTop (mkF m 8 #[.val (.ref (n0 + ob0)), .val (.ref (n0 + ob1)), .unset, .unset, .unset] [(.long x3)])) _
    refine XS.lstoreN X2.here hx rfl (hb hby d1_8) rfl (l' := #[.val (.ref (n0 + ob0)), .val (.ref (n0 + ob1)), .val (.long x3), .second, .unset]) rfl ?_
    show Steps p.tables e below (T2.setTop (mkF m 9 #[.val (.ref (n0 + ob0)), .val (.ref (n0 + ob1)), .val (.long x3), .second, .unset] [])) _
    refine XS.lloadN X2.here hx rfl (hb hby d1_9) rfl ?_
    show Steps p.tables e below (T2.setTop (mkF m 10 #[.val (.ref (n0 + ob0)), .val (.ref (n0 + ob1)), .val (.long x3), .second, .unset] [(.long x3)])) _
    refine X2.ldc2Long hx hown (mvT hZ (hw _ (List.mem_of_getElem? (i := 28) rfl))) (g := (mkF m 10 #[.val (.ref (n0 + ob0)), .val (.ref (n0 + ob1)), .val (.long x3), .second, .unset] [(.long x3)])) rfl (hb hby d1_10) _ ?_
    show Steps p.tables e below (T2.setTop (mkF m 13 #[.val (.ref (n0 + ob0)), .val (.ref (n0 + ob1)), .val (.long x3), .second, .unset] [(.long (10000000 : Int64)), (.long x3)])) _
    refine XS.lcmp X2.here hx rfl (hb hby d1_13) rfl ?_
    exact k
  by_cases hc4 : (10000000 : Int64) < x3
  · rw [if_pos hc4] at hf
    cases hf
  · rw [if_neg hc4] at hf
    obtain ⟨a5, ha5, hf⟩ := own_letE hf
    obtain ⟨D5, hD5, hf⟩ := own_bind hf
    obtain ⟨T5, h5, X5, e5, O5, st5⟩ := cloneW X2 hx hZ hown (ty := .int) (by decide) (hw _ (List.mem_of_getElem? (i := 29) rfl)) (hw _ (List.mem_of_getElem? (i := 30) rfl)) (hw _ (List.mem_of_getElem? (i := 34) rfl)) (hw _ (List.mem_of_getElem? (i := 32) rfl)) (hw _ (List.mem_of_getElem? (i := 33) rfl)) (hw _ (List.mem_of_getElem? (i := 35) rfl)) e2 O2 rfl hD5 (g := (mkF m 33 #[.val (.ref (n0 + ob0)), .val (.ref (n0 + ob1)), .val (.long x3), .second, .unset] [(.ref (n0 + ob1)), (.ref (n0 + ob0))])) rfl (by rw [hml]; rfl) rfl (hb hby d1_33) (by decide) (W := 1) (by show 2 * 0 + _ ≤ _; exact Nat.le_of_eq rfl) (by decide) (by show _ + 1 ≤ 3; omega) (by show _ + 8 ≤ 24; omega)
    rw [ha5] at st5
    obtain ⟨u7, hk6, hf⟩ := own_bind hf
    obtain ⟨T6, X6, e6, st6⟩ := castW X5 hx hZ hown (hw _ (List.mem_of_getElem? (i := 36) rfl)) (ty := .int) (by decide) e5 O5 hk6 rfl (g := (mkF m 36 #[.val (.ref (n0 + ob0)), .val (.ref (n0 + ob1)), .val (.long x3), .second, .unset] [(.ref (n0 + a5)), (.ref (n0 + ob0))])) rfl rfl (hb hby d1_36)
    obtain ⟨D8, hq8, hf⟩ := own_bind hf
    obtain ⟨T8, h8, L8, X8, e8, O8, N8, st8⟩ := putW X6 hx hZ hown (hw _ (List.mem_of_getElem? (i := 38) rfl)) (lay1 hw) e6 O5 N2 hq8 rfl rfl (Or.inr ⟨(hw _ (List.mem_of_getElem? (i := 39) rfl)), rfl, hnm⟩) (hw _ (List.mem_of_getElem? (i := 3) rfl)) (ty := (.array .int)) (by decide) rfl rfl (g := (mkF m 39 #[.val (.ref (n0 + ob0)), .val (.ref (n0 + ob1)), .val (.long x3), .second, .unset] [(.ref (n0 + a5)), (.ref (n0 + ob0))])) rfl rfl (hb hby d1_39)
    obtain ⟨x9, hx9, hf⟩ := own_bind hf
    obtain ⟨a10, ha10, hf⟩ := own_letE hf
    obtain ⟨D10, hD10, hf⟩ := own_bind hf
    obtain ⟨T10, h10, X10, e10, O10, st10⟩ := newAW X8 hx hZ (aty := .int) (hw _ (List.mem_of_getElem? (i := 1) rfl)) e8 O8 rfl rfl hD10 (g := (mkF m 47 #[.val (.ref (n0 + ob0)), .val (.ref (n0 + ob1)), .val (.long x3), .second, .unset] [(.int (x9 + (1 : Int32))), (.ref (n0 + ob0))])) rfl (hb hby d1_47) rfl (by decide) (by show _ + 1 ≤ 3; omega) (by show _ + 8 ≤ 24; omega)
    rw [ha10] at st10
    obtain ⟨D11, hq11, hf⟩ := own_bind hf
    obtain ⟨T11, h11, L11, X11, e11, O11, N11, st11⟩ := putW X10 hx hZ hown (hw _ (List.mem_of_getElem? (i := 40) rfl)) (lay1 hw) e10 O10 N8 hq11 rfl rfl (Or.inr ⟨(hw _ (List.mem_of_getElem? (i := 41) rfl)), rfl, hnm⟩) (hw _ (List.mem_of_getElem? (i := 3) rfl)) (ty := (.array .int)) (by decide) rfl rfl (g := (mkF m 49 #[.val (.ref (n0 + ob0)), .val (.ref (n0 + ob1)), .val (.long x3), .second, .unset] [(.ref (n0 + a10)), (.ref (n0 + ob0))])) rfl rfl (hb hby d1_49)
    refine Gl.on (B := T11.setTop (mkF m 55 #[.val (.ref (n0 + ob0)), .val (.ref (n0 + ob1)), .val (.long x3), .second, .val (.int (0 : Int32))] [])) (fun t k => ?_) ?_
    · show Steps p.tables e below (T2.setTop (mkF m 14 #[.val (.ref (n0 + ob0)), .val (.ref (n0 + ob1)), .val (.long x3), .second, .unset] [(.int (lcmpW x3 (10000000 : Int64)))])) _
      refine XS.ifYes X2.here hx rfl (pc0 := 14) (pc' := 31) rfl (hb hby d1_14) rfl ((if0 _ _).trans (flt (mt (lw_gt _ _).mp hc4)).2.2.2) (by decide) (by decide) ?_
      show Steps p.tables e below (T2.setTop (mkF m 31 #[.val (.ref (n0 + ob0)), .val (.ref (n0 + ob1)), .val (.long x3), .second, .unset] [])) _
      refine XS.aloadN X2.here hx rfl (hb hby d1_31) rfl rfl ?_
      show Steps p.tables e below (T2.setTop (mkF m 32 #[.val (.ref (n0 + ob0)), .val (.ref (n0 + ob1)), .val (.long x3), .second, .unset] [(.ref (n0 + ob0))])) _
      refine XS.aloadN X2.here hx rfl (hb hby d1_32) rfl rfl ?_
      show Steps p.tables e below (T2.setTop (mkF m 33 #[.val (.ref (n0 + ob0)), .val (.ref (n0 + ob1)), .val (.long x3), .second, .unset] [(.ref (n0 + ob1)), (.ref (n0 + ob0))])) _
      refine st5 _ ?_
      show Steps p.tables e below (T5.setTop (mkF m 36 #[.val (.ref (n0 + ob0)), .val (.ref (n0 + ob1)), .val (.long x3), .second, .unset] [(.ref (n0 + a5)), (.ref (n0 + ob0))])) _
      refine st6 _ ?_
      show Steps p.tables e below (T6.setTop (mkF m 39 #[.val (.ref (n0 + ob0)), .val (.ref (n0 + ob1)), .val (.long x3), .second, .unset] [(.ref (n0 + a5)), (.ref (n0 + ob0))])) _
      refine st8 _ ?_
      show Steps p.tables e below (T8.setTop (mkF m 42 #[.val (.ref (n0 + ob0)), .val (.ref (n0 + ob1)), .val (.long x3), .second, .unset] [])) _
      refine XS.aloadN X8.here hx rfl (hb hby d1_42) rfl rfl ?_
      show Steps p.tables e below (T8.setTop (mkF m 43 #[.val (.ref (n0 + ob0)), .val (.ref (n0 + ob1)), .val (.long x3), .second, .unset] [(.ref (n0 + ob0))])) _
      refine XS.aloadN X8.here hx rfl (hb hby d1_43) rfl rfl ?_
      show Steps p.tables e below (T8.setTop (mkF m 44 #[.val (.ref (n0 + ob0)), .val (.ref (n0 + ob1)), .val (.long x3), .second, .unset] [(.ref (n0 + ob1)), (.ref (n0 + ob0))])) _
      refine lenW' X8 hx hZ e8 O8 hx9 (ty := .int) rfl (g := (mkF m 44 #[.val (.ref (n0 + ob0)), .val (.ref (n0 + ob1)), .val (.long x3), .second, .unset] [(.ref (n0 + ob1)), (.ref (n0 + ob0))])) rfl rfl (hb hby d1_44) _ ?_
      show Steps p.tables e below (T8.setTop (mkF m 45 #[.val (.ref (n0 + ob0)), .val (.ref (n0 + ob1)), .val (.long x3), .second, .unset] [(.int x9), (.ref (n0 + ob0))])) _
      refine XS.iconst X8.here hx rfl (hb hby d1_45) ?_
      show Steps p.tables e below (T8.setTop (mkF m 46 #[.val (.ref (n0 + ob0)), .val (.ref (n0 + ob1)), .val (.long x3), .second, .unset] [(.int (1 : Int32)), (.int x9), (.ref (n0 + ob0))])) _
      refine XS.iadd X8.here hx rfl (hb hby d1_46) rfl ?_
      show Steps p.tables e below (T8.setTop (mkF m 47 #[.val (.ref (n0 + ob0)), .val (.ref (n0 + ob1)), .val (.long x3), .second, .unset] [(.int (x9 + (1 : Int32))), (.ref (n0 + ob0))])) _
      refine st10 _ ?_
      show Steps p.tables e below (T10.setTop (mkF m 49 #[.val (.ref (n0 + ob0)), .val (.ref (n0 + ob1)), .val (.long x3), .second, .unset] [(.ref (n0 + a10)), (.ref (n0 + ob0))])) _
      refine st11 _ ?_
      show Steps p.tables e below (T11.setTop (mkF m 52 #[.val (.ref (n0 + ob0)), .val (.ref (n0 + ob1)), .val (.long x3), .second, .unset] [])) _
      refine XS.iconst X11.here hx rfl (hb hby d1_52) ?_
      show Steps p.tables e below (T11.setTop (mkF m 53 #[.val (.ref (n0 + ob0)), .val (.ref (n0 + ob1)), .val (.long x3), .second, .unset] [(.int (0 : Int32))])) _
      refine XS.istore X11.here hx rfl (hb hby d1_53) rfl (l' := #[.val (.ref (n0 + ob0)), .val (.ref (n0 + ob1)), .val (.long x3), .second, .val (.int (0 : Int32))]) rfl ?_
      exact k
    exact bt1_55 hw hC 12 X11 e11 O11 N11 (by omega) (by omega) hf
theorem d8_0 : decode prog_16_method_8_code 0 = .ok (.iconst 0, 1) := by decide +kernel
theorem d8_1 : decode prog_16_method_8_code 1 = .ok (.istore 4, 2) := by decide +kernel
theorem d8_3 : decode prog_16_method_8_code 3 = .ok (.iconst 0, 1) := by decide +kernel
theorem d8_4 : decode prog_16_method_8_code 4 = .ok (.istore 5, 2) := by decide +kernel
theorem d8_6 : decode prog_16_method_8_code 6 = .ok (.iload 5, 2) := by decide +kernel
theorem d8_8 : decode prog_16_method_8_code 8 = .ok (.aload_n 0, 1) := by decide +kernel
theorem d8_9 : decode prog_16_method_8_code 9 = .ok (.getfield 30, 3) := by decide +kernel
theorem d8_12 : decode prog_16_method_8_code 12 = .ok (.arraylength, 1) := by decide +kernel
theorem d8_13 : decode prog_16_method_8_code 13 = .ok (.if_icmp .ge 95, 3) := by decide +kernel
theorem d8_16 : decode prog_16_method_8_code 16 = .ok (.aload_n 0, 1) := by decide +kernel
theorem d8_17 : decode prog_16_method_8_code 17 = .ok (.getfield 38, 3) := by decide +kernel
theorem d8_20 : decode prog_16_method_8_code 20 = .ok (.iload 5, 2) := by decide +kernel
theorem d8_22 : decode prog_16_method_8_code 22 = .ok (.iaload, 1) := by decide +kernel
theorem d8_23 : decode prog_16_method_8_code 23 = .ok (.istore 6, 2) := by decide +kernel
theorem d8_25 : decode prog_16_method_8_code 25 = .ok (.aload_n 1, 1) := by decide +kernel
theorem d8_26 : decode prog_16_method_8_code 26 = .ok (.iload_n 2, 1) := by decide +kernel
theorem d8_27 : decode prog_16_method_8_code 27 = .ok (.iload 5, 2) := by decide +kernel
theorem d8_29 : decode prog_16_method_8_code 29 = .ok (.iadd, 1) := by decide +kernel
theorem d8_30 : decode prog_16_method_8_code 30 = .ok (.iaload, 1) := by decide +kernel
theorem d8_31 : decode prog_16_method_8_code 31 = .ok (.istore 7, 2) := by decide +kernel
theorem d8_33 : decode prog_16_method_8_code 33 = .ok (.iload 5, 2) := by decide +kernel
theorem d8_35 : decode prog_16_method_8_code 35 = .ok (.iconst 1, 1) := by decide +kernel
theorem d8_36 : decode prog_16_method_8_code 36 = .ok (.iadd, 1) := by decide +kernel
theorem d8_37 : decode prog_16_method_8_code 37 = .ok (.istore 8, 2) := by decide +kernel
theorem d8_39 : decode prog_16_method_8_code 39 = .ok (.iload 8, 2) := by decide +kernel
theorem d8_41 : decode prog_16_method_8_code 41 = .ok (.aload_n 0, 1) := by decide +kernel
theorem d8_42 : decode prog_16_method_8_code 42 = .ok (.getfield 30, 3) := by decide +kernel
theorem d8_45 : decode prog_16_method_8_code 45 = .ok (.arraylength, 1) := by decide +kernel
theorem d8_46 : decode prog_16_method_8_code 46 = .ok (.if_icmp .ge 56, 3) := by decide +kernel
theorem d8_49 : decode prog_16_method_8_code 49 = .ok (.aload_n 3, 1) := by decide +kernel
theorem d8_50 : decode prog_16_method_8_code 50 = .ok (.iload 4, 2) := by decide +kernel
theorem d8_52 : decode prog_16_method_8_code 52 = .ok (.iinc 4 1, 3) := by decide +kernel
theorem d8_55 : decode prog_16_method_8_code 55 = .ok (.iload 6, 2) := by decide +kernel
theorem d8_57 : decode prog_16_method_8_code 57 = .ok (.iload 7, 2) := by decide +kernel
theorem d8_59 : decode prog_16_method_8_code 59 = .ok (.aload_n 0, 1) := by decide +kernel
theorem d8_60 : decode prog_16_method_8_code 60 = .ok (.getfield 30, 3) := by decide +kernel
theorem d8_63 : decode prog_16_method_8_code 63 = .ok (.iload 8, 2) := by decide +kernel
theorem d8_65 : decode prog_16_method_8_code 65 = .ok (.iaload, 1) := by decide +kernel
theorem d8_66 : decode prog_16_method_8_code 66 = .ok (.imul, 1) := by decide +kernel
theorem d8_67 : decode prog_16_method_8_code 67 = .ok (.iadd, 1) := by decide +kernel
theorem d8_68 : decode prog_16_method_8_code 68 = .ok (.aload_n 1, 1) := by decide +kernel
theorem d8_69 : decode prog_16_method_8_code 69 = .ok (.iload_n 2, 1) := by decide +kernel
theorem d8_70 : decode prog_16_method_8_code 70 = .ok (.iload 8, 2) := by decide +kernel
theorem d8_72 : decode prog_16_method_8_code 72 = .ok (.iadd, 1) := by decide +kernel
theorem d8_73 : decode prog_16_method_8_code 73 = .ok (.iaload, 1) := by decide +kernel
theorem d8_74 : decode prog_16_method_8_code 74 = .ok (.iadd, 1) := by decide +kernel
theorem d8_75 : decode prog_16_method_8_code 75 = .ok (.iastore, 1) := by decide +kernel
theorem d8_76 : decode prog_16_method_8_code 76 = .ok (.iload 6, 2) := by decide +kernel
theorem d8_78 : decode prog_16_method_8_code 78 = .ok (.aload_n 0, 1) := by decide +kernel
theorem d8_79 : decode prog_16_method_8_code 79 = .ok (.getfield 30, 3) := by decide +kernel
theorem d8_82 : decode prog_16_method_8_code 82 = .ok (.iload 5, 2) := by decide +kernel
theorem d8_84 : decode prog_16_method_8_code 84 = .ok (.iaload, 1) := by decide +kernel
theorem d8_85 : decode prog_16_method_8_code 85 = .ok (.aload_n 0, 1) := by decide +kernel
theorem d8_86 : decode prog_16_method_8_code 86 = .ok (.getfield 30, 3) := by decide +kernel
theorem d8_89 : decode prog_16_method_8_code 89 = .ok (.iload 8, 2) := by decide +kernel
theorem d8_91 : decode prog_16_method_8_code 91 = .ok (.iaload, 1) := by decide +kernel
theorem d8_92 : decode prog_16_method_8_code 92 = .ok (.imul, 1) := by decide +kernel
theorem d8_93 : decode prog_16_method_8_code 93 = .ok (.iadd, 1) := by decide +kernel
theorem d8_94 : decode prog_16_method_8_code 94 = .ok (.istore 6, 2) := by decide +kernel
theorem d8_96 : decode prog_16_method_8_code 96 = .ok (.iinc 8 1, 3) := by decide +kernel
theorem d8_99 : decode prog_16_method_8_code 99 = .ok (.goto (-60), 3) := by decide +kernel
theorem d8_102 : decode prog_16_method_8_code 102 = .ok (.iinc 5 1, 3) := by decide +kernel
theorem d8_105 : decode prog_16_method_8_code 105 = .ok (.goto (-99), 3) := by decide +kernel
theorem d8_108 : decode prog_16_method_8_code 108 = .ok (.return_, 1) := by decide +kernel
theorem pn_8 : plainName "com/example/pathweave/pathweave/core/PairIndex" = true := by first | (simp [plainName, overriddenIn]; done) | decide +kernel
def sg8_39 : Nat → Hp → Nat → Nat → Int32 → Nat → Int32 → Int32 → Int32 → Int32 → Int32 → Option (Int32 × Int32 × Int32 × Hp)
  | 0, _, _, _, _, _, _, _, _, _, _ => none
  | fu + 1, D, ob0, ob1, i2, ob3, i4, i5, i6, i7, i8 =>
  (gR D ob0 1 0).bind fun x14 =>
  (lA D x14 0).bind fun x16 =>
  if i8 < x16 then ((gR D ob0 1 0).bind fun x18 =>
  (rI D x18 0 i8).bind fun x20 =>
  (rI D ob1 0 (i2 + i8)).bind fun x21 =>
  (wV D ob3 0 i4 (.int ((i6 + (i7 * x20)) + x21))).bind fun D22 =>
  (gR D22 ob0 1 0).bind fun x23 =>
  (rI D22 x23 0 i5).bind fun x25 =>
  (gR D22 ob0 1 0).bind fun x26 =>
  (rI D22 x26 0 i8).bind fun x28 =>
  own_let (i6 + (x25 * x28)) fun v29 =>
  sg8_39 fu D22 ob0 ob1 i2 ob3 (i4 + (1 : Int32)) i5 v29 i7 (i8 + (1 : Int32))) else (some (i4, i6, i8, D))
set_option maxRecDepth 65536 in
set_option maxHeartbeats 40000000 in
theorem sgt8_39 {p : Program} {l : Launch} {e : Env} {s : State} {m : MethodId} {args : Array Value} {below : List Frame} {meth : Method} {c : Code} {Z : State} {a0 : Array Value} {n0 : Nat} {kc ks : Nat} {P : Option Value → Heap → List Loc → Prop} (hw : ∀ d ∈ tables_1, d.before a0 Z = true) (hC : Cx p s m meth c Z prog_16_method_8_code 9 none "com/example/pathweave/pathweave/core/PairIndex" "pairsOf") (fu : Nat) : ∀ {T0 : State} {locs : List Loc} {cells slots : Nat} {h0 : Heap} {D D' : Hp} {ob0 : Nat} {ob1 : Nat} {i2 : Int32} {ob3 : Nat} {i4 : Int32} {i5 : Int32} {i6 : Int32} {i7 : Int32} {i8 : Int32} {o4 : Int32} {o6 : Int32} {o8 : Int32}, (Stand p l e ({ frames := 0, cells := 0, slots := 0, locals := 0 } : Room) s m args below meth c T0 locs cells slots) → (T0.heap = h0) → (Ow Kt1 Z h0 n0 D) → (Fr n0 locs) → (cells ≤ 0) → (slots ≤ 0) → (sg8_39 fu D ob0 ob1 i2 ob3 i4 i5 i6 i7 i8 = some (o4, o6, o8, D')) → (∀ (T' : State) (h' : Heap) (L' : List Loc), Stand p l e ({ frames := 0, cells := 0, slots := 0, locals := 0 } : Room) s m args below meth c T' L' cells slots → T'.heap = h' → Ow Kt1 Z h' n0 D' → Fr n0 L' → Gl p e below s kc ks P (T'.setTop (mkF m 102 #[.val (.ref (n0 + ob0)), .val (.ref (n0 + ob1)), .val (.int i2), .val (.ref (n0 + ob3)), .val (.int o4), .val (.int i5), .val (.int o6), .val (.int i7), .val (.int o8)] []))) → Gl p e below s kc ks P (T0.setTop (mkF m 39 #[.val (.ref (n0 + ob0)), .val (.ref (n0 + ob1)), .val (.int i2), .val (.ref (n0 + ob3)), .val (.int i4), .val (.int i5), .val (.int i6), .val (.int i7), .val (.int i8)] [])) := by
  obtain ⟨hx, hZ, hby, hml, hown, hnm, hret, hlk⟩ := id hC
  have hml : c.maxLocals = 9 := hml
  induction fu with
  | zero => intro T0 locs cells slots h0 D D' ob0 ob1 i2 ob3 i4 i5 i6 i7 i8 o4 o6 o8 X0 e0 O0 N0 hcc hss hf k; cases hf
  | succ fu ih =>
    intro T0 locs cells slots h0 D D' ob0 ob1 i2 ob3 i4 i5 i6 i7 i8 o4 o6 o8 X0 e0 O0 N0 hcc hss hf k
    rw [sg8_39] at hf
    obtain ⟨x14, hx14, hf⟩ := own_bind hf
    obtain ⟨T15, X15, e15, st15⟩ := getF X0 hx hZ hown (host := "") (Or.inl (hw _ (List.mem_of_getElem? (i := 38) rfl))) Via.refl e0 (O0.fld (gR_e hx14) rfl rfl) (g := (mkF m 42 #[.val (.ref (n0 + ob0)), .val (.ref (n0 + ob1)), .val (.int i2), .val (.ref (n0 + ob3)), .val (.int i4), .val (.int i5), .val (.int i6), .val (.int i7), .val (.int i8)] [(.ref (n0 + ob0)), (.int i8)])) rfl rfl (hb hby d8_42)
    obtain ⟨x16, hx16, hf⟩ := own_bind hf
    refine Gl.on (B := T15.setTop (mkF m 46 #[.val (.ref (n0 + ob0)), .val (.ref (n0 + ob1)), .val (.int i2), .val (.ref (n0 + ob3)), .val (.int i4), .val (.int i5), .val (.int i6), .val (.int i7), .val (.int i8)] [(.int x16), (.int i8)])) (fun t k => ?_) ?_
    · show Steps p.tables e below (T0.setTop (mkF m 39 #[.val (.ref (n0 + ob0)), .val (.ref (n0 + ob1)), .val (.int i2), .val (.ref (n0 + ob3)), .val (.int i4), .val (.int i5), .val (.int i6), .val (.int i7), .val (.int i8)] [])) _
      refine XS.iload X0.here hx rfl (hb hby d8_39) rfl ?_
      show Steps p.tables e below (T0.setTop (mkF m 41 #[.val (.ref (n0 + ob0)), .val (.ref (n0 + ob1)), .val (.int i2), .val (.ref (n0 + ob3)), .val (.int i4), .val (.int i5), .val (.int i6), .val (.int i7), .val (.int i8)] [(.int i8)])) _
      refine XS.aloadN X0.here hx rfl (hb hby d8_41) rfl rfl ?_
      show Steps p.tables e below (T0.setTop (mkF m 42 #[.val (.ref (n0 + ob0)), .val (.ref (n0 + ob1)), .val (.int i2), .val (.ref (n0 + ob3)), .val (.int i4), .val (.int i5), .val (.int i6), .val (.int i7), .val (.int i8)] [(.ref (n0 + ob0)), (.int i8)])) _
      refine st15 _ ?_
      show Steps p.tables e below (T15.setTop (mkF m 45 #[.val (.ref (n0 + ob0)), .val (.ref (n0 + ob1)), .val (.int i2), .val (.ref (n0 + ob3)), .val (.int i4), .val (.int i5), .val (.int i6), .val (.int i7), .val (.int i8)] [(.ref (n0 + x14)), (.int i8)])) _
      refine lenW' X15 hx hZ e15 O0 hx16 (ty := .int) rfl (g := (mkF m 45 #[.val (.ref (n0 + ob0)), .val (.ref (n0 + ob1)), .val (.int i2), .val (.ref (n0 + ob3)), .val (.int i4), .val (.int i5), .val (.int i6), .val (.int i7), .val (.int i8)] [(.ref (n0 + x14)), (.int i8)])) rfl rfl (hb hby d8_45) _ ?_
      exact k
    by_cases hc17 : i8 < x16
    · rw [if_pos hc17] at hf
      obtain ⟨x18, hx18, hf⟩ := own_bind hf
      obtain ⟨T19, X19, e19, st19⟩ := getF X15 hx hZ hown (host := "") (Or.inl (hw _ (List.mem_of_getElem? (i := 38) rfl))) Via.refl e15 (O0.fld (gR_e hx18) rfl rfl) (g := (mkF m 60 #[.val (.ref (n0 + ob0)), .val (.ref (n0 + ob1)), .val (.int i2), .val (.ref (n0 + ob3)), .val (.int (i4 + (1 : Int32))), .val (.int i5), .val (.int i6), .val (.int i7), .val (.int i8)] [(.ref (n0 + ob0)), (.int i7), (.int i6), (.int i4), (.ref (n0 + ob3))])) rfl rfl (hb hby d8_60)
      obtain ⟨x20, hx20, hf⟩ := own_bind hf
      obtain ⟨x21, hx21, hf⟩ := own_bind hf
      obtain ⟨D22, hq22, hf⟩ := own_bind hf
      obtain ⟨T22, h22, L22, X22, e22, O22, N22, st22⟩ := stIW X19 hx hZ e19 O0 N0 hq22 rfl (g := (mkF m 75 #[.val (.ref (n0 + ob0)), .val (.ref (n0 + ob1)), .val (.int i2), .val (.ref (n0 + ob3)), .val (.int (i4 + (1 : Int32))), .val (.int i5), .val (.int i6), .val (.int i7), .val (.int i8)] [(.int ((i6 + (i7 * x20)) + x21)), (.int i4), (.ref (n0 + ob3))])) rfl rfl (hb hby d8_75)
      obtain ⟨x23, hx23, hf⟩ := own_bind hf
      obtain ⟨T24, X24, e24, st24⟩ := getF X22 hx hZ hown (host := "") (Or.inl (hw _ (List.mem_of_getElem? (i := 38) rfl))) Via.refl e22 (O22.fld (gR_e hx23) rfl rfl) (g := (mkF m 79 #[.val (.ref (n0 + ob0)), .val (.ref (n0 + ob1)), .val (.int i2), .val (.ref (n0 + ob3)), .val (.int (i4 + (1 : Int32))), .val (.int i5), .val (.int i6), .val (.int i7), .val (.int i8)] [(.ref (n0 + ob0)), (.int i6)])) rfl rfl (hb hby d8_79)
      obtain ⟨x25, hx25, hf⟩ := own_bind hf
      obtain ⟨x26, hx26, hf⟩ := own_bind hf
      obtain ⟨T27, X27, e27, st27⟩ := getF X24 hx hZ hown (host := "") (Or.inl (hw _ (List.mem_of_getElem? (i := 38) rfl))) Via.refl e24 (O22.fld (gR_e hx26) rfl rfl) (g := (mkF m 86 #[.val (.ref (n0 + ob0)), .val (.ref (n0 + ob1)), .val (.int i2), .val (.ref (n0 + ob3)), .val (.int (i4 + (1 : Int32))), .val (.int i5), .val (.int i6), .val (.int i7), .val (.int i8)] [(.ref (n0 + ob0)), (.int x25), (.int i6)])) rfl rfl (hb hby d8_86)
      obtain ⟨x28, hx28, hf⟩ := own_bind hf
      obtain ⟨v29, hv29, hf⟩ := own_letE hf
      refine Gl.on (B := T27.setTop (mkF m 39 #[.val (.ref (n0 + ob0)), .val (.ref (n0 + ob1)), .val (.int i2), .val (.ref (n0 + ob3)), .val (.int (i4 + (1 : Int32))), .val (.int i5), .val (.int v29), .val (.int i7), .val (.int (i8 + (1 : Int32)))] [])) (fun t k => ?_) ?_
      · show Steps p.tables e below (T15.setTop (mkF m 46 #[.val (.ref (n0 + ob0)), .val (.ref (n0 + ob1)), .val (.int i2), .val (.ref (n0 + ob3)), .val (.int i4), .val (.int i5), .val (.int i6), .val (.int i7), .val (.int i8)] [(.int x16), (.int i8)])) _
        refine XS.icmpNo X15.here hx rfl (hb hby d8_46) rfl (tlt hc17).2.1 ?_
        show Steps p.tables e below (T15.setTop (mkF m 49 #[.val (.ref (n0 + ob0)), .val (.ref (n0 + ob1)), .val (.int i2), .val (.ref (n0 + ob3)), .val (.int i4), .val (.int i5), .val (.int i6), .val (.int i7), .val (.int i8)] [])) _
        refine XS.aloadN X15.here hx rfl (hb hby d8_49) rfl rfl ?_
        show Steps p.tables e below (T15.setTop (mkF m 50 #[.val (.ref (n0 + ob0)), .val (.ref (n0 + ob1)), .val (.int i2), .val (.ref (n0 + ob3)), .val (.int i4), .val (.int i5), .val (.int i6), .val (.int i7), .val (.int i8)] [(.ref (n0 + ob3))])) _
        refine XS.iload X15.here hx rfl (hb hby d8_50) rfl ?_
        show Steps p.tables e below (T15.setTop (mkF m 52 #[.val (.ref (n0 + ob0)), .val (.ref (n0 + ob1)), .val (.int i2), .val (.ref (n0 + ob3)), .val (.int i4), .val (.int i5), .val (.int i6), .val (.int i7), .val (.int i8)] [(.int i4), (.ref (n0 + ob3))])) _
        refine XS.iinc X15.here hx rfl (hb hby d8_52) rfl (l' := #[.val (.ref (n0 + ob0)), .val (.ref (n0 + ob1)), .val (.int i2), .val (.ref (n0 + ob3)), .val (.int (i4 + (1 : Int32))), .val (.int i5), .val (.int i6), .val (.int i7), .val (.int i8)]) rfl ?_
        show Steps p.tables e below (T15.setTop (mkF m 55 #[.val (.ref (n0 + ob0)), .val (.ref (n0 + ob1)), .val (.int i2), .val (.ref (n0 + ob3)), .val (.int (i4 + (1 : Int32))), .val (.int i5), .val (.int i6), .val (.int i7), .val (.int i8)] [(.int i4), (.ref (n0 + ob3))])) _
        refine XS.iload X15.here hx rfl (hb hby d8_55) rfl ?_
        show Steps p.tables e below (T15.setTop (mkF m 57 #[.val (.ref (n0 + ob0)), .val (.ref (n0 + ob1)), .val (.int i2), .val (.ref (n0 + ob3)), .val (.int (i4 + (1 : Int32))), .val (.int i5), .val (.int i6), .val (.int i7), .val (.int i8)] [(.int i6), (.int i4), (.ref (n0 + ob3))])) _
        refine XS.iload X15.here hx rfl (hb hby d8_57) rfl ?_
        show Steps p.tables e below (T15.setTop (mkF m 59 #[.val (.ref (n0 + ob0)), .val (.ref (n0 + ob1)), .val (.int i2), .val (.ref (n0 + ob3)), .val (.int (i4 + (1 : Int32))), .val (.int i5), .val (.int i6), .val (.int i7), .val (.int i8)] [(.int i7), (.int i6), (.int i4), (.ref (n0 + ob3))])) _
        refine XS.aloadN X15.here hx rfl (hb hby d8_59) rfl rfl ?_
        show Steps p.tables e below (T15.setTop (mkF m 60 #[.val (.ref (n0 + ob0)), .val (.ref (n0 + ob1)), .val (.int i2), .val (.ref (n0 + ob3)), .val (.int (i4 + (1 : Int32))), .val (.int i5), .val (.int i6), .val (.int i7), .val (.int i8)] [(.ref (n0 + ob0)), (.int i7), (.int i6), (.int i4), (.ref (n0 + ob3))])) _
        refine st19 _ ?_
        show Steps p.tables e below (T19.setTop (mkF m 63 #[.val (.ref (n0 + ob0)), .val (.ref (n0 + ob1)), .val (.int i2), .val (.ref (n0 + ob3)), .val (.int (i4 + (1 : Int32))), .val (.int i5), .val (.int i6), .val (.int i7), .val (.int i8)] [(.ref (n0 + x18)), (.int i7), (.int i6), (.int i4), (.ref (n0 + ob3))])) _
        refine XS.iload X19.here hx rfl (hb hby d8_63) rfl ?_
        show Steps p.tables e below (T19.setTop (mkF m 65 #[.val (.ref (n0 + ob0)), .val (.ref (n0 + ob1)), .val (.int i2), .val (.ref (n0 + ob3)), .val (.int (i4 + (1 : Int32))), .val (.int i5), .val (.int i6), .val (.int i7), .val (.int i8)] [(.int i8), (.ref (n0 + x18)), (.int i7), (.int i6), (.int i4), (.ref (n0 + ob3))])) _
        refine ldW X19 hx hZ e19 O0 hx20 rfl (g := (mkF m 65 #[.val (.ref (n0 + ob0)), .val (.ref (n0 + ob1)), .val (.int i2), .val (.ref (n0 + ob3)), .val (.int (i4 + (1 : Int32))), .val (.int i5), .val (.int i6), .val (.int i7), .val (.int i8)] [(.int i8), (.ref (n0 + x18)), (.int i7), (.int i6), (.int i4), (.ref (n0 + ob3))])) rfl rfl (hb hby d8_65) _ ?_
        show Steps p.tables e below (T19.setTop (mkF m 66 #[.val (.ref (n0 + ob0)), .val (.ref (n0 + ob1)), .val (.int i2), .val (.ref (n0 + ob3)), .val (.int (i4 + (1 : Int32))), .val (.int i5), .val (.int i6), .val (.int i7), .val (.int i8)] [(.int x20), (.int i7), (.int i6), (.int i4), (.ref (n0 + ob3))])) _
        refine XS.imul X19.here hx rfl (hb hby d8_66) rfl ?_
        show Steps p.tables e below (T19.setTop (mkF m 67 #[.val (.ref (n0 + ob0)), .val (.ref (n0 + ob1)), .val (.int i2), .val (.ref (n0 + ob3)), .val (.int (i4 + (1 : Int32))), .val (.int i5), .val (.int i6), .val (.int i7), .val (.int i8)] [(.int (i7 * x20)), (.int i6), (.int i4), (.ref (n0 + ob3))])) _
        refine XS.iadd X19.here hx rfl (hb hby d8_67) rfl ?_
        show Steps p.tables e below (T19.setTop (mkF m 68 #[.val (.ref (n0 + ob0)), .val (.ref (n0 + ob1)), .val (.int i2), .val (.ref (n0 + ob3)), .val (.int (i4 + (1 : Int32))), .val (.int i5), .val (.int i6), .val (.int i7), .val (.int i8)] [(.int (i6 + (i7 * x20))), (.int i4), (.ref (n0 + ob3))])) _
        refine XS.aloadN X19.here hx rfl (hb hby d8_68) rfl rfl ?_
        show Steps p.tables e below (T19.setTop (mkF m 69 #[.val (.ref (n0 + ob0)), .val (.ref (n0 + ob1)), .val (.int i2), .val (.ref (n0 + ob3)), .val (.int (i4 + (1 : Int32))), .val (.int i5), .val (.int i6), .val (.int i7), .val (.int i8)] [(.ref (n0 + ob1)), (.int (i6 + (i7 * x20))), (.int i4), (.ref (n0 + ob3))])) _
        refine XS.iloadN X19.here hx rfl (hb hby d8_69) rfl ?_
        show Steps p.tables e below (T19.setTop (mkF m 70 #[.val (.ref (n0 + ob0)), .val (.ref (n0 + ob1)), .val (.int i2), .val (.ref (n0 + ob3)), .val (.int (i4 + (1 : Int32))), .val (.int i5), .val (.int i6), .val (.int i7), .val (.int i8)] [(.int i2), (.ref (n0 + ob1)), (.int (i6 + (i7 * x20))), (.int i4), (.ref (n0 + ob3))])) _
        refine XS.iload X19.here hx rfl (hb hby d8_70) rfl ?_
        show Steps p.tables e below (T19.setTop (mkF m 72 #[.val (.ref (n0 + ob0)), .val (.ref (n0 + ob1)), .val (.int i2), .val (.ref (n0 + ob3)), .val (.int (i4 + (1 : Int32))), .val (.int i5), .val (.int i6), .val (.int i7), .val (.int i8)] [(.int i8), (.int i2), (.ref (n0 + ob1)), (.int (i6 + (i7 * x20))), (.int i4), (.ref (n0 + ob3))])) _
        refine XS.iadd X19.here hx rfl (hb hby d8_72) rfl ?_
        show Steps p.tables e below (T19.setTop (mkF m 73 #[.val (.ref (n0 + ob0)), .val (.ref (n0 + ob1)), .val (.int i2), .val (.ref (n0 + ob3)), .val (.int (i4 + (1 : Int32))), .val (.int i5), .val (.int i6), .val (.int i7), .val (.int i8)] [(.int (i2 + i8)), (.ref (n0 + ob1)), (.int (i6 + (i7 * x20))), (.int i4), (.ref (n0 + ob3))])) _
        refine ldW X19 hx hZ e19 O0 hx21 rfl (g := (mkF m 73 #[.val (.ref (n0 + ob0)), .val (.ref (n0 + ob1)), .val (.int i2), .val (.ref (n0 + ob3)), .val (.int (i4 + (1 : Int32))), .val (.int i5), .val (.int i6), .val (.int i7), .val (.int i8)] [(.int (i2 + i8)), (.ref (n0 + ob1)), (.int (i6 + (i7 * x20))), (.int i4), (.ref (n0 + ob3))])) rfl rfl (hb hby d8_73) _ ?_
        show Steps p.tables e below (T19.setTop (mkF m 74 #[.val (.ref (n0 + ob0)), .val (.ref (n0 + ob1)), .val (.int i2), .val (.ref (n0 + ob3)), .val (.int (i4 + (1 : Int32))), .val (.int i5), .val (.int i6), .val (.int i7), .val (.int i8)] [(.int x21), (.int (i6 + (i7 * x20))), (.int i4), (.ref (n0 + ob3))])) _
        refine XS.iadd X19.here hx rfl (hb hby d8_74) rfl ?_
        show Steps p.tables e below (T19.setTop (mkF m 75 #[.val (.ref (n0 + ob0)), .val (.ref (n0 + ob1)), .val (.int i2), .val (.ref (n0 + ob3)), .val (.int (i4 + (1 : Int32))), .val (.int i5), .val (.int i6), .val (.int i7), .val (.int i8)] [(.int ((i6 + (i7 * x20)) + x21)), (.int i4), (.ref (n0 + ob3))])) _
        refine st22 _ ?_
        show Steps p.tables e below (T22.setTop (mkF m 76 #[.val (.ref (n0 + ob0)), .val (.ref (n0 + ob1)), .val (.int i2), .val (.ref (n0 + ob3)), .val (.int (i4 + (1 : Int32))), .val (.int i5), .val (.int i6), .val (.int i7), .val (.int i8)] [])) _
        refine XS.iload X22.here hx rfl (hb hby d8_76) rfl ?_
        show Steps p.tables e below (T22.setTop (mkF m 78 #[.val (.ref (n0 + ob0)), .val (.ref (n0 + ob1)), .val (.int i2), .val (.ref (n0 + ob3)), .val (.int (i4 + (1 : Int32))), .val (.int i5), .val (.int i6), .val (.int i7), .val (.int i8)] [(.int i6)])) _
        refine XS.aloadN X22.here hx rfl (hb hby d8_78) rfl rfl ?_
        show Steps p.tables e below (T22.setTop (mkF m 79 #[.val (.ref (n0 + ob0)), .val (.ref (n0 + ob1)), .val (.int i2), .val (.ref (n0 + ob3)), .val (.int (i4 + (1 : Int32))), .val (.int i5), .val (.int i6), .val (.int i7), .val (.int i8)] [(.ref (n0 + ob0)), (.int i6)])) _
        refine st24 _ ?_
        show Steps p.tables e below (T24.setTop (mkF m 82 #[.val (.ref (n0 + ob0)), .val (.ref (n0 + ob1)), .val (.int i2), .val (.ref (n0 + ob3)), .val (.int (i4 + (1 : Int32))), .val (.int i5), .val (.int i6), .val (.int i7), .val (.int i8)] [(.ref (n0 + x23)), (.int i6)])) _
        refine XS.iload X24.here hx rfl (hb hby d8_82) rfl ?_
        show Steps p.tables e below (T24.setTop (mkF m 84 #[.val (.ref (n0 + ob0)), .val (.ref (n0 + ob1)), .val (.int i2), .val (.ref (n0 + ob3)), .val (.int (i4 + (1 : Int32))), .val (.int i5), .val (.int i6), .val (.int i7), .val (.int i8)] [(.int i5), (.ref (n0 + x23)), (.int i6)])) _
        refine ldW X24 hx hZ e24 O22 hx25 rfl (g := (mkF m 84 #[.val (.ref (n0 + ob0)), .val (.ref (n0 + ob1)), .val (.int i2), .val (.ref (n0 + ob3)), .val (.int (i4 + (1 : Int32))), .val (.int i5), .val (.int i6), .val (.int i7), .val (.int i8)] [(.int i5), (.ref (n0 + x23)), (.int i6)])) rfl rfl (hb hby d8_84) _ ?_
        show Steps p.tables e below (T24.setTop (mkF m 85 #[.val (.ref (n0 + ob0)), .val (.ref (n0 + ob1)), .val (.int i2), .val (.ref (n0 + ob3)), .val (.int (i4 + (1 : Int32))), .val (.int i5), .val (.int i6), .val (.int i7), .val (.int i8)] [(.int x25), (.int i6)])) _
        refine XS.aloadN X24.here hx rfl (hb hby d8_85) rfl rfl ?_
        show Steps p.tables e below (T24.setTop (mkF m 86 #[.val (.ref (n0 + ob0)), .val (.ref (n0 + ob1)), .val (.int i2), .val (.ref (n0 + ob3)), .val (.int (i4 + (1 : Int32))), .val (.int i5), .val (.int i6), .val (.int i7), .val (.int i8)] [(.ref (n0 + ob0)), (.int x25), (.int i6)])) _
        refine st27 _ ?_
        show Steps p.tables e below (T27.setTop (mkF m 89 #[.val (.ref (n0 + ob0)), .val (.ref (n0 + ob1)), .val (.int i2), .val (.ref (n0 + ob3)), .val (.int (i4 + (1 : Int32))), .val (.int i5), .val (.int i6), .val (.int i7), .val (.int i8)] [(.ref (n0 + x26)), (.int x25), (.int i6)])) _
        refine XS.iload X27.here hx rfl (hb hby d8_89) rfl ?_
        show Steps p.tables e below (T27.setTop (mkF m 91 #[.val (.ref (n0 + ob0)), .val (.ref (n0 + ob1)), .val (.int i2), .val (.ref (n0 + ob3)), .val (.int (i4 + (1 : Int32))), .val (.int i5), .val (.int i6), .val (.int i7), .val (.int i8)] [(.int i8), (.ref (n0 + x26)), (.int x25), (.int i6)])) _
        refine ldW X27 hx hZ e27 O22 hx28 rfl (g := (mkF m 91 #[.val (.ref (n0 + ob0)), .val (.ref (n0 + ob1)), .val (.int i2), .val (.ref (n0 + ob3)), .val (.int (i4 + (1 : Int32))), .val (.int i5), .val (.int i6), .val (.int i7), .val (.int i8)] [(.int i8), (.ref (n0 + x26)), (.int x25), (.int i6)])) rfl rfl (hb hby d8_91) _ ?_
        show Steps p.tables e below (T27.setTop (mkF m 92 #[.val (.ref (n0 + ob0)), .val (.ref (n0 + ob1)), .val (.int i2), .val (.ref (n0 + ob3)), .val (.int (i4 + (1 : Int32))), .val (.int i5), .val (.int i6), .val (.int i7), .val (.int i8)] [(.int x28), (.int x25), (.int i6)])) _
        refine XS.imul X27.here hx rfl (hb hby d8_92) rfl ?_
        show Steps p.tables e below (T27.setTop (mkF m 93 #[.val (.ref (n0 + ob0)), .val (.ref (n0 + ob1)), .val (.int i2), .val (.ref (n0 + ob3)), .val (.int (i4 + (1 : Int32))), .val (.int i5), .val (.int i6), .val (.int i7), .val (.int i8)] [(.int (x25 * x28)), (.int i6)])) _
        refine XS.iadd X27.here hx rfl (hb hby d8_93) rfl ?_
        show Steps p.tables e below (T27.setTop (mkF m 94 #[.val (.ref (n0 + ob0)), .val (.ref (n0 + ob1)), .val (.int i2), .val (.ref (n0 + ob3)), .val (.int (i4 + (1 : Int32))), .val (.int i5), .val (.int i6), .val (.int i7), .val (.int i8)] [(.int (i6 + (x25 * x28)))])) _
        refine own_to (congrArg (fun z => T27.setTop (mkF m 94 #[.val (.ref (n0 + ob0)), .val (.ref (n0 + ob1)), .val (.int i2), .val (.ref (n0 + ob3)), .val (.int (i4 + (1 : Int32))), .val (.int i5), .val (.int i6), .val (.int i7), .val (.int i8)] [(.int z)])) hv29) ?_
        show Steps p.tables e below (T27.setTop (mkF m 94 #[.val (.ref (n0 + ob0)), .val (.ref (n0 + ob1)), .val (.int i2), .val (.ref (n0 + ob3)), .val (.int (i4 + (1 : Int32))), .val (.int i5), .val (.int i6), .val (.int i7), .val (.int i8)] [(.int v29)])) _
        refine XS.istore X27.here hx rfl (hb hby d8_94) rfl (l' := #[.val (.ref (n0 + ob0)), .val (.ref (n0 + ob1)), .val (.int i2), .val (.ref (n0 + ob3)), .val (.int (i4 + (1 : Int32))), .val (.int i5), .val (.int v29), .val (.int i7), .val (.int i8)]) rfl ?_
        show Steps p.tables e below (T27.setTop (mkF m 96 #[.val (.ref (n0 + ob0)), .val (.ref (n0 + ob1)), .val (.int i2), .val (.ref (n0 + ob3)), .val (.int (i4 + (1 : Int32))), .val (.int i5), .val (.int v29), .val (.int i7), .val (.int i8)] [])) _
        refine XS.iinc X27.here hx rfl (hb hby d8_96) rfl (l' := #[.val (.ref (n0 + ob0)), .val (.ref (n0 + ob1)), .val (.int i2), .val (.ref (n0 + ob3)), .val (.int (i4 + (1 : Int32))), .val (.int i5), .val (.int v29), .val (.int i7), .val (.int (i8 + (1 : Int32)))]) rfl ?_
        show Steps p.tables e below (T27.setTop (mkF m 99 #[.val (.ref (n0 + ob0)), .val (.ref (n0 + ob1)), .val (.int i2), .val (.ref (n0 + ob3)), .val (.int (i4 + (1 : Int32))), .val (.int i5), .val (.int v29), .val (.int i7), .val (.int (i8 + (1 : Int32)))] [])) _
        refine XS.goto X27.here hx rfl (pc0 := 99) (pc' := 39) rfl (hb hby d8_99) (by decide) (by decide) ?_
        exact k
      exact ih X27 e27 O22 N22 (by omega) (by omega) hf k
    · rw [if_neg hc17] at hf
      refine Gl.on (B := T15.setTop (mkF m 102 #[.val (.ref (n0 + ob0)), .val (.ref (n0 + ob1)), .val (.int i2), .val (.ref (n0 + ob3)), .val (.int i4), .val (.int i5), .val (.int i6), .val (.int i7), .val (.int i8)] [])) (fun t k => ?_) ?_
      · show Steps p.tables e below (T15.setTop (mkF m 46 #[.val (.ref (n0 + ob0)), .val (.ref (n0 + ob1)), .val (.int i2), .val (.ref (n0 + ob3)), .val (.int i4), .val (.int i5), .val (.int i6), .val (.int i7), .val (.int i8)] [(.int x16), (.int i8)])) _
        refine XS.icmpYes X15.here hx rfl (pc0 := 46) (pc' := 102) rfl (hb hby d8_46) rfl (flt hc17).2.1 (by decide) (by decide) ?_
        exact k
      cases hf
      exact k T15 _ _ X15 e15 O0 N0
def b8_6 : Nat → Hp → Nat → Nat → Int32 → Nat → Int32 → Int32 → Option (Hp)
  | 0, _, _, _, _, _, _, _ => none
  | fu + 1, D, ob0, ob1, i2, ob3, i4, i5 =>
  (gR D ob0 1 0).bind fun x1 =>
  (lA D x1 0).bind fun x3 =>
  if i5 < x3 then ((gR D ob0 1 2).bind fun x5 =>
  (rI D x5 0 i5).bind fun x7 =>
  (rI D ob1 0 (i2 + i5)).bind fun x8 =>
  own_let (i5 + (1 : Int32)) fun v9 =>
  (sg8_39 12 D ob0 ob1 i2 ob3 i4 i5 x7 x8 v9).bind fun q10 => own_let q10.1 fun x11 => own_let q10.2.1 fun x12 => own_let q10.2.2.1 fun x13 => own_let q10.2.2.2 fun D10 =>
  b8_6 fu D10 ob0 ob1 i2 ob3 x11 (i5 + (1 : Int32))) else (some D)
set_option maxRecDepth 65536 in
set_option maxHeartbeats 40000000 in
theorem bt8_6 {p : Program} {l : Launch} {e : Env} {s : State} {m : MethodId} {args : Array Value} {below : List Frame} {meth : Method} {c : Code} {Z : State} {a0 : Array Value} {n0 : Nat} {D' : Hp} (hw : ∀ d ∈ tables_1, d.before a0 Z = true) (hC : Cx p s m meth c Z prog_16_method_8_code 9 none "com/example/pathweave/pathweave/core/PairIndex" "pairsOf") (fu : Nat) : ∀ {T0 : State} {locs : List Loc} {cells slots : Nat} {h0 : Heap} {D : Hp} {ob0 : Nat} {ob1 : Nat} {i2 : Int32} {ob3 : Nat} {i4 : Int32} {i5 : Int32} {s6 : Slot} {s7 : Slot} {s8 : Slot}, (Stand p l e ({ frames := 0, cells := 0, slots := 0, locals := 0 } : Room) s m args below meth c T0 locs cells slots) → (T0.heap = h0) → (Ow Kt1 Z h0 n0 D) → (Fr n0 locs) → (cells ≤ 0) → (slots ≤ 0) → (One s6) → (One s7) → (One s8) → (b8_6 fu D ob0 ob1 i2 ob3 i4 i5 = some D') → Gl p e below s 0 0 (Qw Kt1 Z n0 none D') (T0.setTop (mkF m 6 #[.val (.ref (n0 + ob0)), .val (.ref (n0 + ob1)), .val (.int i2), .val (.ref (n0 + ob3)), .val (.int i4), .val (.int i5), s6, s7, s8] [])) := by
  obtain ⟨hx, hZ, hby, hml, hown, hnm, hret, hlk⟩ := id hC
  have hml : c.maxLocals = 9 := hml
  induction fu with
  | zero => intro T0 locs cells slots h0 D ob0 ob1 i2 ob3 i4 i5 s6 s7 s8 X0 e0 O0 N0 hcc hss hs6 hs7 hs8 hf; cases hf
  | succ fu ih =>
    intro T0 locs cells slots h0 D ob0 ob1 i2 ob3 i4 i5 s6 s7 s8 X0 e0 O0 N0 hcc hss hs6 hs7 hs8 hf
    rw [b8_6] at hf
    obtain ⟨x1, hx1, hf⟩ := own_bind hf
    obtain ⟨T2, X2, e2, st2⟩ := getF X0 hx hZ hown (host := "") (Or.inl (hw _ (List.mem_of_getElem? (i := 38) rfl))) Via.refl e0 (O0.fld (gR_e hx1) rfl rfl) (g := (mkF m 9 #[.val (.ref (n0 + ob0)), .val (.ref (n0 + ob1)), .val (.int i2), .val (.ref (n0 + ob3)), .val (.int i4), .val (.int i5), s6, s7, s8] [(.ref (n0 + ob0)), (.int i5)])) rfl rfl (hb hby d8_9)
    obtain ⟨x3, hx3, hf⟩ := own_bind hf
    refine Gl.on (B := T2.setTop (mkF m 13 #[.val (.ref (n0 + ob0)), .val (.ref (n0 + ob1)), .val (.int i2), .val (.ref (n0 + ob3)), .val (.int i4), .val (.int i5), s6, s7, s8] [(.int x3), (.int i5)])) (fun t k => ?_) ?_
    · show Steps p.tables e below (T0.setTop (mkF m 6 #[.val (.ref (n0 + ob0)), .val (.ref (n0 + ob1)), .val (.int i2), .val (.ref (n0 + ob3)), .val (.int i4), .val (.int i5), s6, s7, s8] [])) _
      refine XS.iload X0.here hx rfl (hb hby d8_6) rfl ?_
      show Steps p.tables e below (T0.setTop (mkF m 8 #[.val (.ref (n0 + ob0)), .val (.ref (n0 + ob1)), .val (.int i2), .val (.ref (n0 + ob3)), .val (.int i4), .val (.int i5), s6, s7, s8] [(.int i5)])) _
      refine XS.aloadN X0.here hx rfl (hb hby d8_8) rfl rfl ?_
      show Steps p.tables e below (T0.setTop (mkF m 9 #[.val (.ref (n0 + ob0)), .val (.ref (n0 + ob1)), .val (.int i2), .val (.ref (n0 + ob3)), .val (.int i4), .val (.int i5), s6, s7, s8] [(.ref (n0 + ob0)), (.int i5)])) _
      refine st2 _ ?_
      show Steps p.tables e below (T2.setTop (mkF m 12 #[.val (.ref (n0 + ob0)), .val (.ref (n0 + ob1)), .val (.int i2), .val (.ref (n0 + ob3)), .val (.int i4), .val (.int i5), s6, s7, s8] [(.ref (n0 + x1)), (.int i5)])) _
      refine lenW' X2 hx hZ e2 O0 hx3 (ty := .int) rfl (g := (mkF m 12 #[.val (.ref (n0 + ob0)), .val (.ref (n0 + ob1)), .val (.int i2), .val (.ref (n0 + ob3)), .val (.int i4), .val (.int i5), s6, s7, s8] [(.ref (n0 + x1)), (.int i5)])) rfl rfl (hb hby d8_12) _ ?_
      exact k
    by_cases hc4 : i5 < x3
    · rw [if_pos hc4] at hf
      obtain ⟨x5, hx5, hf⟩ := own_bind hf
      obtain ⟨T6, X6, e6, st6⟩ := getF X2 hx hZ hown (host := "") (Or.inl (hw _ (List.mem_of_getElem? (i := 42) rfl))) Via.refl e2 (O0.fld (gR_e hx5) rfl rfl) (g := (mkF m 17 #[.val (.ref (n0 + ob0)), .val (.ref (n0 + ob1)), .val (.int i2), .val (.ref (n0 + ob3)), .val (.int i4), .val (.int i5), s6, s7, s8] [(.ref (n0 + ob0))])) rfl rfl (hb hby d8_17)
      obtain ⟨x7, hx7, hf⟩ := own_bind hf
      obtain ⟨x8, hx8, hf⟩ := own_bind hf
      obtain ⟨v9, hv9, hf⟩ := own_letE hf
      refine Gl.on (B := T6.setTop (mkF m 39 #[.val (.ref (n0 + ob0)), .val (.ref (n0 + ob1)), .val (.int i2), .val (.ref (n0 + ob3)), .val (.int i4), .val (.int i5), .val (.int x7), .val (.int x8), .val (.int v9)] [])) (fun t k => ?_) ?_
      · show Steps p.tables e below (T2.setTop (mkF m 13 #[.val (.ref (n0 + ob0)), .val (.ref (n0 + ob1)), .val (.int i2), .val (.ref (n0 + ob3)), .val (.int i4), .val (.int i5), s6, s7, s8] [(.int x3), (.int i5)])) _
        refine XS.icmpNo X2.here hx rfl (hb hby d8_13) rfl (tlt hc4).2.1 ?_
        show Steps p.tables e below (T2.setTop (mkF m 16 #[.val (.ref (n0 + ob0)), .val (.ref (n0 + ob1)), .val (.int i2), .val (.ref (n0 + ob3)), .val (.int i4), .val (.int i5), s6, s7, s8] [])) _
        refine XS.aloadN X2.here hx rfl (hb hby d8_16) rfl rfl ?_
        show Steps p.tables e below (T2.setTop (mkF m 17 #[.val (.ref (n0 + ob0)), .val (.ref (n0 + ob1)), .val (.int i2), .val (.ref (n0 + ob3)), .val (.int i4), .val (.int i5), s6, s7, s8] [(.ref (n0 + ob0))])) _
        refine st6 _ ?_
        show Steps p.tables e below (T6.setTop (mkF m 20 #[.val (.ref (n0 + ob0)), .val (.ref (n0 + ob1)), .val (.int i2), .val (.ref (n0 + ob3)), .val (.int i4), .val (.int i5), s6, s7, s8] [(.ref (n0 + x5))])) _
        refine XS.iload X6.here hx rfl (hb hby d8_20) rfl ?_
        show Steps p.tables e below (T6.setTop (mkF m 22 #[.val (.ref (n0 + ob0)), .val (.ref (n0 + ob1)), .val (.int i2), .val (.ref (n0 + ob3)), .val (.int i4), .val (.int i5), s6, s7, s8] [(.int i5), (.ref (n0 + x5))])) _
        refine ldW X6 hx hZ e6 O0 hx7 rfl (g := (mkF m 22 #[.val (.ref (n0 + ob0)), .val (.ref (n0 + ob1)), .val (.int i2), .val (.ref (n0 + ob3)), .val (.int i4), .val (.int i5), s6, s7, s8] [(.int i5), (.ref (n0 + x5))])) rfl rfl (hb hby d8_22) _ ?_
        show Steps p.tables e below (T6.setTop (mkF m 23 #[.val (.ref (n0 + ob0)), .val (.ref (n0 + ob1)), .val (.int i2), .val (.ref (n0 + ob3)), .val (.int i4), .val (.int i5), s6, s7, s8] [(.int x7)])) _
        refine XS.istore X6.here hx rfl (hb hby d8_23) rfl (l' := #[.val (.ref (n0 + ob0)), .val (.ref (n0 + ob1)), .val (.int i2), .val (.ref (n0 + ob3)), .val (.int i4), .val (.int i5), .val (.int x7), s7, s8]) (XS.store1 (o := s6) rfl hs6 rfl) ?_
        show Steps p.tables e below (T6.setTop (mkF m 25 #[.val (.ref (n0 + ob0)), .val (.ref (n0 + ob1)), .val (.int i2), .val (.ref (n0 + ob3)), .val (.int i4), .val (.int i5), .val (.int x7), s7, s8] [])) _
        refine XS.aloadN X6.here hx rfl (hb hby d8_25) rfl rfl ?_
        show Steps p.tables e below (T6.setTop (mkF m 26 #[.val (.ref (n0 + ob0)), .val (.ref (n0 + ob1)), .val (.int i2), .val (.ref (n0 + ob3)), .val (.int i4), .val (.int i5), .val (.int x7), s7, s8] [(.ref (n0 + ob1))])) _
        refine XS.iloadN X6.here hx rfl (hb hby d8_26) rfl ?_
        show Steps p.tables e below (T6.setTop (mkF m 27 #[.val (.ref (n0 + ob0)), .val (.ref (n0 + ob1)), .val (.int i2), .val (.ref (n0 + ob3)), .val (.int i4), .val (.int i5), .val (.int x7), s7, s8] [(.int i2), (.ref (n0 + ob1))])) _
        refine XS.iload X6.here hx rfl (hb hby d8_27) rfl ?_
        show Steps p.tables e below (T6.setTop (mkF m 29 #[.val (.ref (n0 + ob0)), .val (.ref (n0 + ob1)), .val (.int i2), .val (.ref (n0 + ob3)), .val (.int i4), .val (.int i5), .val (.int x7), s7, s8] [(.int i5), (.int i2), (.ref (n0 + ob1))])) _
        refine XS.iadd X6.here hx rfl (hb hby d8_29) rfl ?_
        show Steps p.tables e below (T6.setTop (mkF m 30 #[.val (.ref (n0 + ob0)), .val (.ref (n0 + ob1)), .val (.int i2), .val (.ref (n0 + ob3)), .val (.int i4), .val (.int i5), .val (.int x7), s7, s8] [(.int (i2 + i5)), (.ref (n0 + ob1))])) _
        refine ldW X6 hx hZ e6 O0 hx8 rfl (g := (mkF m 30 #[.val (.ref (n0 + ob0)), .val (.ref (n0 + ob1)), .val (.int i2), .val (.ref (n0 + ob3)), .val (.int i4), .val (.int i5), .val (.int x7), s7, s8] [(.int (i2 + i5)), (.ref (n0 + ob1))])) rfl rfl (hb hby d8_30) _ ?_
        show Steps p.tables e below (T6.setTop (mkF m 31 #[.val (.ref (n0 + ob0)), .val (.ref (n0 + ob1)), .val (.int i2), .val (.ref (n0 + ob3)), .val (.int i4), .val (.int i5), .val (.int x7), s7, s8] [(.int x8)])) _
        refine XS.istore X6.here hx rfl (hb hby d8_31) rfl (l' := #[.val (.ref (n0 + ob0)), .val (.ref (n0 + ob1)), .val (.int i2), .val (.ref (n0 + ob3)), .val (.int i4), .val (.int i5), .val (.int x7), .val (.int x8), s8]) (XS.store1 (o := s7) rfl hs7 rfl) ?_
        show Steps p.tables e below (T6.setTop (mkF m 33 #[.val (.ref (n0 + ob0)), .val (.ref (n0 + ob1)), .val (.int i2), .val (.ref (n0 + ob3)), .val (.int i4), .val (.int i5), .val (.int x7), .val (.int x8), s8] [])) _
        refine XS.iload X6.here hx rfl (hb hby d8_33) rfl ?_
        show Steps p.tables e below (T6.setTop (mkF m 35 #[.val (.ref (n0 + ob0)), .val (.ref (n0 + ob1)), .val (.int i2), .val (.ref (n0 + ob3)), .val (.int i4), .val (.int i5), .val (.int x7), .val (.int x8), s8] [(.int i5)])) _
        refine XS.iconst X6.here hx rfl (hb hby d8_35) ?_
        show Steps p.tables e below (T6.setTop (mkF m 36 #[.val (.ref (n0 + ob0)), .val (.ref (n0 + ob1)), .val (.int i2), .val (.ref (n0 + ob3)), .val (.int i4), .val (.int i5), .val (.int x7), .val (.int x8), s8] [(.int (1 : Int32)), (.int i5)])) _
        refine XS.iadd X6.here hx rfl (hb hby d8_36) rfl ?_
        show Steps p.tables e below (T6.setTop (mkF m 37 #[.val (.ref (n0 + ob0)), .val (.ref (n0 + ob1)), .val (.int i2), .val (.ref (n0 + ob3)), .val (.int i4), .val (.int i5), .val (.int x7), .val (.int x8), s8] [(.int (i5 + (1 : Int32)))])) _
        refine own_to (congrArg (fun z => T6.setTop (mkF m 37 #[.val (.ref (n0 + ob0)), .val (.ref (n0 + ob1)), .val (.int i2), .val (.ref (n0 + ob3)), .val (.int i4), .val (.int i5), .val (.int x7), .val (.int x8), s8] [(.int z)])) hv9) ?_
        show Steps p.tables e below (T6.setTop (mkF m 37 #[.val (.ref (n0 + ob0)), .val (.ref (n0 + ob1)), .val (.int i2), .val (.ref (n0 + ob3)), .val (.int i4), .val (.int i5), .val (.int x7), .val (.int x8), s8] [(.int v9)])) _
        refine XS.istore X6.here hx rfl (hb hby d8_37) rfl (l' := #[.val (.ref (n0 + ob0)), .val (.ref (n0 + ob1)), .val (.int i2), .val (.ref (n0 + ob3)), .val (.int i4), .val (.int i5), .val (.int x7), .val (.int x8), .val (.int v9)]) (XS.store1 (o := s8) rfl hs8 rfl) ?_
        exact k
      obtain ⟨⟨x11, x12, x13, D10⟩, hq10, hf⟩ := own_bind hf
      obtain ⟨_, rfl, hf⟩ := own_letE hf
      obtain ⟨_, rfl, hf⟩ := own_letE hf
      obtain ⟨_, rfl, hf⟩ := own_letE hf
      obtain ⟨_, rfl, hf⟩ := own_letE hf
      refine sgt8_39 hw hC 12 X6 e6 O0 N0 (by omega) (by omega) hq10 ?_
      intro T10 h10 L10 X10 e10 O10 N10
      refine Gl.on (B := T10.setTop (mkF m 6 #[.val (.ref (n0 + ob0)), .val (.ref (n0 + ob1)), .val (.int i2), .val (.ref (n0 + ob3)), .val (.int x11), .val (.int (i5 + (1 : Int32))), .val (.int x12), .val (.int x8), .val (.int x13)] [])) (fun t k => ?_) ?_
      · show Steps p.tables e below (T10.setTop (mkF m 102 #[.val (.ref (n0 + ob0)), .val (.ref (n0 + ob1)), .val (.int i2), .val (.ref (n0 + ob3)), .val (.int x11), .val (.int i5), .val (.int x12), .val (.int x8), .val (.int x13)] [])) _
        refine XS.iinc X10.here hx rfl (hb hby d8_102) rfl (l' := #[.val (.ref (n0 + ob0)), .val (.ref (n0 + ob1)), .val (.int i2), .val (.ref (n0 + ob3)), .val (.int x11), .val (.int (i5 + (1 : Int32))), .val (.int x12), .val (.int x8), .val (.int x13)]) rfl ?_
        show Steps p.tables e below (T10.setTop (mkF m 105 #[.val (.ref (n0 + ob0)), .val (.ref (n0 + ob1)), .val (.int i2), .val (.ref (n0 + ob3)), .val (.int x11), .val (.int (i5 + (1 : Int32))), .val (.int x12), .val (.int x8), .val (.int x13)] [])) _
        refine XS.goto X10.here hx rfl (pc0 := 105) (pc' := 6) rfl (hb hby d8_105) (by decide) (by decide) ?_
        exact k
      exact ih X10 e10 O10 N10 (by omega) (by omega) (One.val rfl) (One.val rfl) (One.val rfl) hf
    · rw [if_neg hc4] at hf
      refine Gl.on (B := T2.setTop (mkF m 108 #[.val (.ref (n0 + ob0)), .val (.ref (n0 + ob1)), .val (.int i2), .val (.ref (n0 + ob3)), .val (.int i4), .val (.int i5), s6, s7, s8] [])) (fun t k => ?_) ?_
      · show Steps p.tables e below (T2.setTop (mkF m 13 #[.val (.ref (n0 + ob0)), .val (.ref (n0 + ob1)), .val (.int i2), .val (.ref (n0 + ob3)), .val (.int i4), .val (.int i5), s6, s7, s8] [(.int x3), (.int i5)])) _
        refine XS.icmpYes X2.here hx rfl (pc0 := 13) (pc' := 108) rfl (hb hby d8_13) rfl (flt hc4).2.1 (by decide) (by decide) ?_
        exact k
      obtain rfl := own_inj1 hf
      exact Gl.outV X2 hx hlk hret (hb hby d8_108) ⟨rfl, N0, by rw [e2]; exact O0⟩ (by show _ ≤ 0; omega) (by show _ ≤ 0; omega)
def f8 (D : Hp) (ob0 : Nat) (ob1 : Nat) (i2 : Int32) (ob3 : Nat) : Option (Hp) :=
  b8_6 12 D ob0 ob1 i2 ob3 (0 : Int32) (0 : Int32)
theorem ef_8 (m : MethodId) (n0 : Nat) (ob0 : Nat) (ob1 : Nat) (i2 : Int32) (ob3 : Nat) : entryFrame m #[(.ref (n0 + ob0)), (.ref (n0 + ob1)), (.int i2), (.ref (n0 + ob3))] 9 = mkF m 0 #[.val (.ref (n0 + ob0)), .val (.ref (n0 + ob1)), .val (.int i2), .val (.ref (n0 + ob3)), .unset, .unset, .unset, .unset, .unset] [] := by first | (simp [entryFrame, mkF, argsToLocals, Value.category]; done) | rfl
set_option maxRecDepth 65536 in
set_option maxHeartbeats 40000000 in
theorem ct8 {l : Launch} {Z : State} {a0 : Array Value} (hw : ∀ d ∈ tables_1, d.before a0 Z = true) {n0 : Nat} {D D' : Hp} {ob0 : Nat} {ob1 : Nat} {i2 : Int32} {ob3 : Nat} (hf : f8 D ob0 ob1 i2 ob3 = some D') :
    Ct Kt1 l Z (⟨"com/example/pathweave/pathweave/core/PairIndex", "pairsOf", "([II[I)V"⟩ : MethodName) (.code (⟨"com/example/pathweave/pathweave/core/PairIndex", "pairsOf", "([II[I)V"⟩ : MethodName) prog_16_method_8_code 9 none) ({ frames := 0, cells := 0, slots := 0, locals := 0 } : Room) n0 D #[(.ref (n0 + ob0)), (.ref (n0 + ob1)), (.int i2), (.ref (n0 + ob3))] none D' := by
  refine Ct.of (plainFor_of_name pn_8) ?_
  intro p e s m below meth c T0 h0 hC X0 e0 O0
  obtain ⟨hx, hZ, hby, hml, hown, hnm, hret, hlk⟩ := id hC
  have hml : c.maxLocals = 9 := hml
  have hown : s.vm.findClass "com/example/pathweave/pathweave/core/PairIndex" = some m.cls := hown
  have hnm : meth.name = "pairsOf" := hnm
  have N0 := Fr.nil n0
  refine Gl.on (fun t k => castTop (ef_8 m n0 ob0 ob1 i2 ob3) k) ?_
  rw [f8] at hf
  refine Gl.on (B := T0.setTop (mkF m 6 #[.val (.ref (n0 + ob0)), .val (.ref (n0 + ob1)), .val (.int i2), .val (.ref (n0 + ob3)), .val (.int (0 : Int32)), .val (.int (0 : Int32)), .unset, .unset, .unset] [])) (fun t k => ?_) ?_
  · show Steps p.tables e below (T0.setTop (mkF m 0 #[.val (.ref (n0 + ob0)), .val (.ref (n0 + ob1)), .val (.int i2), .val (.ref (n0 + ob3)), .unset, .unset, .unset, .unset, .unset] [])) _
    refine XS.iconst X0.here hx rfl (hb hby d8_0) ?_
    show Steps p.tables e below (T0.setTop (mkF m 1 #[.val (.ref (n0 + ob0)), .val (.ref (n0 + ob1)), .val (.int i2), .val (.ref (n0 + ob3)), .unset, .unset, .unset, .unset, .unset] [(.int (0 : Int32))])) _
    refine XS.istore X0.here hx rfl (hb hby d8_1) rfl (l' := #[.val (.ref (n0 + ob0)), .val (.ref (n0 + ob1)), .val (.int i2), .val (.ref (n0 + ob3)), .val (.int (0 : Int32)), .unset, .unset, .unset, .unset]) rfl ?_
    show Steps p.tables e below (T0.setTop (mkF m 3 #[.val (.ref (n0 + ob0)), .val (.ref (n0 + ob1)), .val (.int i2), .val (.ref (n0 + ob3)), .val (.int (0 : Int32)), .unset, .unset, .unset, .unset] [])) _
    refine XS.iconst X0.here hx rfl (hb hby d8_3) ?_
    show Steps p.tables e below (T0.setTop (mkF m 4 #[.val (.ref (n0 + ob0)), .val (.ref (n0 + ob1)), .val (.int i2), .val (.ref (n0 + ob3)), .val (.int (0 : Int32)), .unset, .unset, .unset, .unset] [(.int (0 : Int32))])) _
    refine XS.istore X0.here hx rfl (hb hby d8_4) rfl (l' := #[.val (.ref (n0 + ob0)), .val (.ref (n0 + ob1)), .val (.int i2), .val (.ref (n0 + ob3)), .val (.int (0 : Int32)), .val (.int (0 : Int32)), .unset, .unset, .unset]) rfl ?_
    exact k
  exact bt8_6 hw hC 12 X0 e0 O0 N0 (by omega) (by omega) One.u One.u One.u hf
theorem pd_4 : parseMethodDescriptor "([I)V" = some ⟨[(.array .int)], none⟩ := by decide +kernel
theorem pd_5 : parseMethodDescriptor "([II[I)V" = some ⟨[(.array .int), .int, (.array .int)], none⟩ := by decide +kernel
theorem pn_0 : plainName "com/example/pathweave/pathweave/core/PairIndexPairsOfPinLaw" = true := by first | (simp [plainName, overriddenIn]; done) | decide +kernel
def b0_374 (D : Hp) (i7 : Int32) (i8 : Int32) (i9 : Int32) (i10 : Int32) (i12 : Int32) (i13 : Int32) (i14 : Int32) (i15 : Int32) (ob19 : Nat) (i23 : Int32) (i24 : Int32) (i25 : Int32) (i26 : Int32) (t0 : Int32) : Option (Int32 × Hp) :=
  own_let (t0 + i23) fun v56 =>
  own_let (v56 + i24) fun v57 =>
  own_let ((i12 * i7) + i13) fun v58 =>
  own_let ((i25 + (i12 * i8)) + i14) fun v59 =>
  own_let ((i26 + (i12 * i9)) + i15) fun v60 =>
  own_let ((t0 + (i13 * i8)) + i14) fun v61 =>
  own_let ((v56 + (i13 * i9)) + i15) fun v62 =>
  own_let ((v57 + (i14 * i9)) + i15) fun v63 =>
  if i10 = (2 : Int32) then ((rI D ob19 0 (0 : Int32)).bind fun x65 =>
  if x65 = v58 then ((rI D ob19 0 (1 : Int32)).bind fun x67 =>
  if x67 = (-1 : Int32) then ((rI D ob19 0 (2 : Int32)).bind fun x69 =>
  if x69 = (-1 : Int32) then ((rI D ob19 0 (3 : Int32)).bind fun x71 =>
  if x71 = (-1 : Int32) then ((rI D ob19 0 (4 : Int32)).bind fun x73 =>
  if x73 = (-1 : Int32) then ((rI D ob19 0 (5 : Int32)).bind fun x75 =>
  if x75 = (-1 : Int32) then ((rI D ob19 0 (6 : Int32)).bind fun x77 =>
  if x77 = (-1 : Int32) then (some ((1 : Int32), D)) else (some ((0 : Int32), D))) else (some ((0 : Int32), D))) else (some ((0 : Int32), D))) else (some ((0 : Int32), D))) else (some ((0 : Int32), D))) else (some ((0 : Int32), D))) else (some ((0 : Int32), D))) else (if i10 = (3 : Int32) then ((rI D ob19 0 (0 : Int32)).bind fun x80 =>
  if x80 = v58 then ((rI D ob19 0 (1 : Int32)).bind fun x82 =>
  if x82 = v59 then ((rI D ob19 0 (2 : Int32)).bind fun x84 =>
  if x84 = v61 then ((rI D ob19 0 (3 : Int32)).bind fun x86 =>
  if x86 = (-1 : Int32) then ((rI D ob19 0 (4 : Int32)).bind fun x88 =>
  if x88 = (-1 : Int32) then ((rI D ob19 0 (5 : Int32)).bind fun x90 =>
  if x90 = (-1 : Int32) then ((rI D ob19 0 (6 : Int32)).bind fun x92 =>
  if x92 = (-1 : Int32) then (some ((1 : Int32), D)) else (some ((0 : Int32), D))) else (some ((0 : Int32), D))) else (some ((0 : Int32), D))) else (some ((0 : Int32), D))) else (some ((0 : Int32), D))) else (some ((0 : Int32), D))) else (some ((0 : Int32), D))) else ((rI D ob19 0 (0 : Int32)).bind fun x94 =>
  if x94 = v58 then ((rI D ob19 0 (1 : Int32)).bind fun x96 =>
  if x96 = v59 then ((rI D ob19 0 (2 : Int32)).bind fun x98 =>
  if x98 = v60 then ((rI D ob19 0 (3 : Int32)).bind fun x100 =>
  if x100 = v61 then ((rI D ob19 0 (4 : Int32)).bind fun x102 =>
  if x102 = v62 then ((rI D ob19 0 (5 : Int32)).bind fun x104 =>
  if x104 = v63 then ((rI D ob19 0 (6 : Int32)).bind fun x106 =>
  if x106 = (-1 : Int32) then (some ((1 : Int32), D)) else (some ((0 : Int32), D))) else (some ((0 : Int32), D))) else (some ((0 : Int32), D))) else (some ((0 : Int32), D))) else (some ((0 : Int32), D))) else (some ((0 : Int32), D))) else (some ((0 : Int32), D))))
set_option maxRecDepth 65536 in
set_option maxHeartbeats 40000000 in
theorem bt0_374 {p : Program} {l : Launch} {e : Env} {s : State} {m : MethodId} {args : Array Value} {below : List Frame} {meth : Method} {c : Code} {Z : State} {a0 : Array Value} {n0 : Nat} {D' : Hp} {r : Int32} {T0 : State} {locs : List Loc} {cells slots : Nat} {h0 : Heap} {D : Hp} {i0 : Int32} {i1 : Int32} {i2 : Int32} {i3 : Int32} {i4 : Int32} {i5 : Int32} {i6 : Int32} {i7 : Int32} {i8 : Int32} {i9 : Int32} {i10 : Int32} {i11 : Int32} {i12 : Int32} {i13 : Int32} {i14 : Int32} {i15 : Int32} {ob16 : Nat} {ob17 : Nat} {ob18 : Nat} {ob19 : Nat} {i20 : Int32} {i21 : Int32} {i22 : Int32} {i23 : Int32} {i24 : Int32} {i25 : Int32} {i26 : Int32} {t0 : Int32} (hw : ∀ d ∈ tables_1, d.before a0 Z = true) (hC : Cx p s m meth c Z code maxLocals ret "com/example/pathweave/pathweave/core/PairIndexPairsOfPinLaw" "law") (X0 : Stand p l e room_1 s m args below meth c T0 locs cells slots) (e0 : T0.heap = h0) (O0 : Ow Kt1 Z h0 n0 D) (N0 : Fr n0 locs) (hcc : cells ≤ 7) (hss : slots ≤ 51) (hf : b0_374 D i7 i8 i9 i10 i12 i13 i14 i15 ob19 i23 i24 i25 i26 t0 = some (r, D')) : Gl p e below s 24 192 (Qw Kt1 Z n0 (some (.int r)) D') (T0.setTop (mkF m 374 #[.val (.int i0), .val (.int i1), .val (.int i2), .val (.int i3), .val (.int i4), .val (.int i5), .val (.int i6), .val (.int i7), .val (.int i8), .val (.int i9), .val (.int i10), .val (.int i11), .val (.int i12), .val (.int i13), .val (.int i14), .val (.int i15), .val (.ref (n0 + ob16)), .val (.ref (n0 + ob17)), .val (.ref (n0 + ob18)), .val (.ref (n0 + ob19)), .val (.int i20), .val (.int i21), .val (.int i22), .val (.int i23), .val (.int i24), .val (.int i25), .val (.int i26), .unset, .unset, .unset, .unset, .unset, .unset, .unset, .unset, .unset] [(.int t0)])) := by
  obtain ⟨hx, hZ, hby, hml, hown, hnm, hret, hlk⟩ := id hC
  have hml : c.maxLocals = 36 := hml
  rw [b0_374] at hf
  obtain ⟨v56, hv56, hf⟩ := own_letE hf
  obtain ⟨v57, hv57, hf⟩ := own_letE hf
  obtain ⟨v58, hv58, hf⟩ := own_letE hf
  obtain ⟨v59, hv59, hf⟩ := own_letE hf
  obtain ⟨v60, hv60, hf⟩ := own_letE hf
  obtain ⟨v61, hv61, hf⟩ := own_letE hf
  obtain ⟨v62, hv62, hf⟩ := own_letE hf
  obtain ⟨v63, hv63, hf⟩ := own_letE hf
  refine Gl.on (B := T0.setTop (mkF m 468 #[.val (.int i0), .val (.int i1), .val (.int i2), .val (.int i3), .val (.int i4), .val (.int i5), .val (.int i6), .val (.int i7), .val (.int i8), .val (.int i9), .val (.int i10), .val (.int i11), .val (.int i12), .val (.int i13), .val (.int i14), .val (.int i15), .val (.ref (n0 + ob16)), .val (.ref (n0 + ob17)), .val (.ref (n0 + ob18)), .val (.ref (n0 + ob19)), .val (.int i20), .val (.int i21), .val (.int i22), .val (.int i23), .val (.int i24), .val (.int i25), .val (.int i26), .val (.int t0), .val (.int v56), .val (.int v57), .val (.int v58), .val (.int v59), .val (.int v60), .val (.int v61), .val (.int v62), .val (.int v63)] [(.int (2 : Int32)), (.int i10)])) (fun t k => ?_) ?_
  · show Steps p.tables e below (T0.setTop (mkF m 374 #[.val (.int i0), .val (.int i1), .val (.int i2), .val (.int i3), .val (.int i4), .val (.int i5), .val (.int i6), .val (.int i7), .val (.int i8), .val (.int i9), .val (.int i10), .val (.int i11), .val (.int i12), .val (.int i13), .val (.int i14), .val (.int i15), .val (.ref (n0 + ob16)), .val (.ref (n0 + ob17)), .val (.ref (n0 + ob18)), .val (.ref (n0 + ob19)), .val (.int i20), .val (.int i21), .val (.int i22), .val (.int i23), .val (.int i24), .val (.int i25), .val (.int i26), .unset, .unset, .unset, .unset, .unset, .unset, .unset, .unset, .unset] [(.int t0)])) _
    refine XS.istore X0.here hx rfl (hb hby at_374) rfl (l' := #[.val (.int i0), .val (.int i1), .val (.int i2), .val (.int i3), .val (.int i4), .val (.int i5), .val (.int i6), .val (.int i7), .val (.int i8), .val (.int i9), .val (.int i10), .val (.int i11), .val (.int i12), .val (.int i13), .val (.int i14), .val (.int i15), .val (.ref (n0 + ob16)), .val (.ref (n0 + ob17)), .val (.ref (n0 + ob18)), .val (.ref (n0 + ob19)), .val (.int i20), .val (.int i21), .val (.int i22), .val (.int i23), .val (.int i24), .val (.int i25), .val (.int i26), .val (.int t0), .unset, .unset, .unset, .unset, .unset, .unset, .unset, .unset]) rfl ?_
    show Steps p.tables e below (T0.setTop (mkF m 376 #[.val (.int i0), .val (.int i1), .val (.int i2), .val (.int i3), .val (.int i4), .val (.int i5), .val (.int i6), .val (.int i7), .val (.int i8), .val (.int i9), .val (.int i10), .val (.int i11), .val (.int i12), .val (.int i13), .val (.int i14), .val (.int i15), .val (.ref (n0 + ob16)), .val (.ref (n0 + ob17)), .val (.ref (n0 + ob18)), .val (.ref (n0 + ob19)), .val (.int i20), .val (.int i21), .val (.int i22), .val (.int i23), .val (.int i24), .val (.int i25), .val (.int i26), .val (.int t0), .unset, .unset, .unset, .unset, .unset, .unset, .unset, .unset] [])) _
    refine XS.iload X0.here hx rfl (hb hby at_376) rfl ?_
    show Steps p.tables e below (T0.setTop (mkF m 378 #[.val (.int i0), .val (.int i1), .val (.int i2), .val (.int i3), .val (.int i4), .val (.int i5), .val (.int i6), .val (.int i7), .val (.int i8), .val (.int i9), .val (.int i10), .val (.int i11), .val (.int i12), .val (.int i13), .val (.int i14), .val (.int i15), .val (.ref (n0 + ob16)), .val (.ref (n0 + ob17)), .val (.ref (n0 + ob18)), .val (.ref (n0 + ob19)), .val (.int i20), .val (.int i21), .val (.int i22), .val (.int i23), .val (.int i24), .val (.int i25), .val (.int i26), .val (.int t0), .unset, .unset, .unset, .unset, .unset, .unset, .unset, .unset] [(.int t0)])) _
    refine XS.iload X0.here hx rfl (hb hby at_378) rfl ?_
    show Steps p.tables e below (T0.setTop (mkF m 380 #[.val (.int i0), .val (.int i1), .val (.int i2), .val (.int i3), .val (.int i4), .val (.int i5), .val (.int i6), .val (.int i7), .val (.int i8), .val (.int i9), .val (.int i10), .val (.int i11), .val (.int i12), .val (.int i13), .val (.int i14), .val (.int i15), .val (.ref (n0 + ob16)), .val (.ref (n0 + ob17)), .val (.ref (n0 + ob18)), .val (.ref (n0 + ob19)), .val (.int i20), .val (.int i21), .val (.int i22), .val (.int i23), .val (.int i24), .val (.int i25), .val (.int i26), .val (.int t0), .unset, .unset, .unset, .unset, .unset, .unset, .unset, .unset] [(.int i23), (.int t0)])) _
    refine XS.iadd X0.here hx rfl (hb hby at_380) rfl ?_
    show Steps p.tables e below (T0.setTop (mkF m 381 #[.val (.int i0), .val (.int i1), .val (.int i2), .val (.int i3), .val (.int i4), .val (.int i5), .val (.int i6), .val (.int i7), .val (.int i8), .val (.int i9), .val (.int i10), .val (.int i11), .val (.int i12), .val (.int i13), .val (.int i14), .val (.int i15), .val (.ref (n0 + ob16)), .val (.ref (n0 + ob17)), .val (.ref (n0 + ob18)), .val (.ref (n0 + ob19)), .val (.int i20), .val (.int i21), .val (.int i22), .val (.int i23), .val (.int i24), .val (.int i25), .val (.int i26), .val (.int t0), .unset, .unset, .unset, .unset, .unset, .unset, .unset, .unset] [(.int (t0 + i23))])) _
    refine own_to (congrArg (fun z => T0.setTop (mkF m 381 #[.val (.int i0), .val (.int i1), .val (.int i2), .val (.int i3), .val (.int i4), .val (.int i5), .val (.int i6), .val (.int i7), .val (.int i8), .val (.int i9), .val (.int i10), .val (.int i11), .val (.int i12), .val (.int i13), .val (.int i14), .val (.int i15), .val (.ref (n0 + ob16)), .val (.ref (n0 + ob17)), .val (.ref (n0 + ob18)), .val (.ref (n0 + ob19)), .val (.int i20), .val (.int i21), .val (.int i22), .val (.int i23), .val (.int i24), .val (.int i25), .val (.int i26), .val (.int t0), .unset, .unset, .unset, .unset, .unset, .unset, .unset, .unset] [(.int z)])) hv56) ?_
    show Steps p.tables e below (T0.setTop (mkF m 381 #[.val (.int i0), .val (.int i1), .val (.int i2), .val (.int i3), .val (.int i4), .val (.int i5), .val (.int i6), .val (.int i7), .val (.int i8), .val (.int i9), .val (.int i10), .val (.int i11), .val (.int i12), .val (.int i13), .val (.int i14), .val (.int i15), .val (.ref (n0 + ob16)), .val (.ref (n0 + ob17)), .val (.ref (n0 + ob18)), .val (.ref (n0 + ob19)), .val (.int i20), .val (.int i21), .val (.int i22), .val (.int i23), .val (.int i24), .val (.int i25), .val (.int i26), .val (.int t0), .unset, .unset, .unset, .unset, .unset, .unset, .unset, .unset] [(.int v56)])) _
    refine XS.istore X0.here hx rfl (hb hby at_381) rfl (l' := #[.val (.int i0), .val (.int i1), .val (.int i2), .val (.int i3), .val (.int i4), .val (.int i5), .val (.int i6), .val (.int i7), .val (.int i8), .val (.int i9), .val (.int i10), .val (.int i11), .val (.int i12), .val (.int i13), .val (.int i14), .val (.int i15), .val (.ref (n0 + ob16)), .val (.ref (n0 + ob17)), .val (.ref (n0 + ob18)), .val (.ref (n0 + ob19)), .val (.int i20), .val (.int i21), .val (.int i22), .val (.int i23), .val (.int i24), .val (.int i25), .val (.int i26), .val (.int t0), .val (.int v56), .unset, .unset, .unset, .unset, .unset, .unset, .unset]) rfl ?_
    show Steps p.tables e below (T0.setTop (mkF m 383 #[.val (.int i0), .val (.int i1), .val (.int i2), .val (.int i3), .val (.int i4), .val (.int i5), .val (.int i6), .val (.int i7), .val (.int i8), .val (.int i9), .val (.int i10), .val (.int i11), .val (.int i12), .val (.int i13), .val (.int i14), .val (.int i15), .val (.ref (n0 + ob16)), .val (.ref (n0 + ob17)), .val (.ref (n0 + ob18)), .val (.ref (n0 + ob19)), .val (.int i20), .val (.int i21), .val (.int i22), .val (.int i23), .val (.int i24), .val (.int i25), .val (.int i26), .val (.int t0), .val (.int v56), .unset, .unset, .unset, .unset, .unset, .unset, .unset] [])) _
    refine XS.iload X0.here hx rfl (hb hby at_383) rfl ?_
    show Steps p.tables e below (T0.setTop (mkF m 385 #[.val (.int i0), .val (.int i1), .val (.int i2), .val (.int i3), .val (.int i4), .val (.int i5), .val (.int i6), .val (.int i7), .val (.int i8), .val (.int i9), .val (.int i10), .val (.int i11), .val (.int i12), .val (.int i13), .val (.int i14), .val (.int i15), .val (.ref (n0 + ob16)), .val (.ref (n0 + ob17)), .val (.ref (n0 + ob18)), .val (.ref (n0 + ob19)), .val (.int i20), .val (.int i21), .val (.int i22), .val (.int i23), .val (.int i24), .val (.int i25), .val (.int i26), .val (.int t0), .val (.int v56), .unset, .unset, .unset, .unset, .unset, .unset, .unset] [(.int v56)])) _
    refine XS.iload X0.here hx rfl (hb hby at_385) rfl ?_
    show Steps p.tables e below (T0.setTop (mkF m 387 #[.val (.int i0), .val (.int i1), .val (.int i2), .val (.int i3), .val (.int i4), .val (.int i5), .val (.int i6), .val (.int i7), .val (.int i8), .val (.int i9), .val (.int i10), .val (.int i11), .val (.int i12), .val (.int i13), .val (.int i14), .val (.int i15), .val (.ref (n0 + ob16)), .val (.ref (n0 + ob17)), .val (.ref (n0 + ob18)), .val (.ref (n0 + ob19)), .val (.int i20), .val (.int i21), .val (.int i22), .val (.int i23), .val (.int i24), .val (.int i25), .val (.int i26), .val (.int t0), .val (.int v56), .unset, .unset, .unset, .unset, .unset, .unset, .unset] [(.int i24), (.int v56)])) _
    refine XS.iadd X0.here hx rfl (hb hby at_387) rfl ?_
    show Steps p.tables e below (T0.setTop (mkF m 388 #[.val (.int i0), .val (.int i1), .val (.int i2), .val (.int i3), .val (.int i4), .val (.int i5), .val (.int i6), .val (.int i7), .val (.int i8), .val (.int i9), .val (.int i10), .val (.int i11), .val (.int i12), .val (.int i13), .val (.int i14), .val (.int i15), .val (.ref (n0 + ob16)), .val (.ref (n0 + ob17)), .val (.ref (n0 + ob18)), .val (.ref (n0 + ob19)), .val (.int i20), .val (.int i21), .val (.int i22), .val (.int i23), .val (.int i24), .val (.int i25), .val (.int i26), .val (.int t0), .val (.int v56), .unset, .unset, .unset, .unset, .unset, .unset, .unset] [(.int (v56 + i24))])) _
    refine own_to (congrArg (fun z => T0.setTop (mkF m 388 #[.val (.int i0), .val (.int i1), .val (.int i2), .val (.int i3), .val (.int i4), .val (.int i5), .val (.int i6), .val (.int i7), .val (.int i8), .val (.int i9), .val (.int i10), .val (.int i11), .val (.int i12), .val (.int i13), .val (.int i14), .val (.int i15), .val (.ref (n0 + ob16)), .val (.ref (n0 + ob17)), .val (.ref (n0 + ob18)), .val (.ref (n0 + ob19)), .val (.int i20), .val (.int i21), .val (.int i22), .val (.int i23), .val (.int i24), .val (.int i25), .val (.int i26), .val (.int t0), .val (.int v56), .unset, .unset, .unset, .unset, .unset, .unset, .unset] [(.int z)])) hv57) ?_
    show Steps p.tables e below (T0.setTop (mkF m 388 #[.val (.int i0), .val (.int i1), .val (.int i2), .val (.int i3), .val (.int i4), .val (.int i5), .val (.int i6), .val (.int i7), .val (.int i8), .val (.int i9), .val (.int i10), .val (.int i11), .val (.int i12), .val (.int i13), .val (.int i14), .val (.int i15), .val (.ref (n0 + ob16)), .val (.ref (n0 + ob17)), .val (.ref (n0 + ob18)), .val (.ref (n0 + ob19)), .val (.int i20), .val (.int i21), .val (.int i22), .val (.int i23), .val (.int i24), .val (.int i25), .val (.int i26), .val (.int t0), .val (.int v56), .unset, .unset, .unset, .unset, .unset, .unset, .unset] [(.int v57)])) _
    refine XS.istore X0.here hx rfl (hb hby at_388) rfl (l' := #[.val (.int i0), .val (.int i1), .val (.int i2), .val (.int i3), .val (.int i4), .val (.int i5), .val (.int i6), .val (.int i7), .val (.int i8), .val (.int i9), .val (.int i10), .val (.int i11), .val (.int i12), .val (.int i13), .val (.int i14), .val (.int i15), .val (.ref (n0 + ob16)), .val (.ref (n0 + ob17)), .val (.ref (n0 + ob18)), .val (.ref (n0 + ob19)), .val (.int i20), .val (.int i21), .val (.int i22), .val (.int i23), .val (.int i24), .val (.int i25), .val (.int i26), .val (.int t0), .val (.int v56), .val (.int v57), .unset, .unset, .unset, .unset, .unset, .unset]) rfl ?_
    show Steps p.tables e below (T0.setTop (mkF m 390 #[.val (.int i0), .val (.int i1), .val (.int i2), .val (.int i3), .val (.int i4), .val (.int i5), .val (.int i6), .val (.int i7), .val (.int i8), .val (.int i9), .val (.int i10), .val (.int i11), .val (.int i12), .val (.int i13), .val (.int i14), .val (.int i15), .val (.ref (n0 + ob16)), .val (.ref (n0 + ob17)), .val (.ref (n0 + ob18)), .val (.ref (n0 + ob19)), .val (.int i20), .val (.int i21), .val (.int i22), .val (.int i23), .val (.int i24), .val (.int i25), .val (.int i26), .val (.int t0), .val (.int v56), .val (.int v57), .unset, .unset, .unset, .unset, .unset, .unset] [])) _
    refine XS.iload X0.here hx rfl (hb hby at_390) rfl ?_
    show Steps p.tables e below (T0.setTop (mkF m 392 #[.val (.int i0), .val (.int i1), .val (.int i2), .val (.int i3), .val (.int i4), .val (.int i5), .val (.int i6), .val (.int i7), .val (.int i8), .val (.int i9), .val (.int i10), .val (.int i11), .val (.int i12), .val (.int i13), .val (.int i14), .val (.int i15), .val (.ref (n0 + ob16)), .val (.ref (n0 + ob17)), .val (.ref (n0 + ob18)), .val (.ref (n0 + ob19)), .val (.int i20), .val (.int i21), .val (.int i22), .val (.int i23), .val (.int i24), .val (.int i25), .val (.int i26), .val (.int t0), .val (.int v56), .val (.int v57), .unset, .unset, .unset, .unset, .unset, .unset] [(.int i12)])) _
    refine XS.iload X0.here hx rfl (hb hby at_392) rfl ?_
    show Steps p.tables e below (T0.setTop (mkF m 394 #[.val (.int i0), .val (.int i1), .val (.int i2), .val (.int i3), .val (.int i4), .val (.int i5), .val (.int i6), .val (.int i7), .val (.int i8), .val (.int i9), .val (.int i10), .val (.int i11), .val (.int i12), .val (.int i13), .val (.int i14), .val (.int i15), .val (.ref (n0 + ob16)), .val (.ref (n0 + ob17)), .val (.ref (n0 + ob18)), .val (.ref (n0 + ob19)), .val (.int i20), .val (.int i21), .val (.int i22), .val (.int i23), .val (.int i24), .val (.int i25), .val (.int i26), .val (.int t0), .val (.int v56), .val (.int v57), .unset, .unset, .unset, .unset, .unset, .unset] [(.int i7), (.int i12)])) _
    refine XS.imul X0.here hx rfl (hb hby at_394) rfl ?_
    show Steps p.tables e below (T0.setTop (mkF m 395 #[.val (.int i0), .val (.int i1), .val (.int i2), .val (.int i3), .val (.int i4), .val (.int i5), .val (.int i6), .val (.int i7), .val (.int i8), .val (.int i9), .val (.int i10), .val (.int i11), .val (.int i12), .val (.int i13), .val (.int i14), .val (.int i15), .val (.ref (n0 + ob16)), .val (.ref (n0 + ob17)), .val (.ref (n0 + ob18)), .val (.ref (n0 + ob19)), .val (.int i20), .val (.int i21), .val (.int i22), .val (.int i23), .val (.int i24), .val (.int i25), .val (.int i26), .val (.int t0), .val (.int v56), .val (.int v57), .unset, .unset, .unset, .unset, .unset, .unset] [(.int (i12 * i7))])) _
    refine XS.iload X0.here hx rfl (hb hby at_395) rfl ?_
    show Steps p.tables e below (T0.setTop (mkF m 397 #[.val (.int i0), .val (.int i1), .val (.int i2), .val (.int i3), .val (.int i4), .val (.int i5), .val (.int i6), .val (.int i7), .val (.int i8), .val (.int i9), .val (.int i10), .val (.int i11), .val (.int i12), .val (.int i13), .val (.int i14), .val (.int i15), .val (.ref (n0 + ob16)), .val (.ref (n0 + ob17)), .val (.ref (n0 + ob18)), .val (.ref (n0 + ob19)), .val (.int i20), .val (.int i21), .val (.int i22), .val (.int i23), .val (.int i24), .val (.int i25), .val (.int i26), .val (.int t0), .val (.int v56), .val (.int v57), .unset, .unset, .unset, .unset, .unset, .unset] [(.int i13), (.int (i12 * i7))])) _
    refine XS.iadd X0.here hx rfl (hb hby at_397) rfl ?_
    show Steps p.tables e below (T0.setTop (mkF m 398 #[.val (.int i0), .val (.int i1), .val (.int i2), .val (.int i3), .val (.int i4), .val (.int i5), .val (.int i6), .val (.int i7), .val (.int i8), .val (.int i9), .val (.int i10), .val (.int i11), .val (.int i12), .val (.int i13), .val (.int i14), .val (.int i15), .val (.ref (n0 + ob16)), .val (.ref (n0 + ob17)), .val (.ref (n0 + ob18)), .val (.ref (n0 + ob19)), .val (.int i20), .val (.int i21), .val (.int i22), .val (.int i23), .val (.int i24), .val (.int i25), .val (.int i26), .val (.int t0), .val (.int v56), .val (.int v57), .unset, .unset, .unset, .unset, .unset, .unset] [(.int ((i12 * i7) + i13))])) _
    refine own_to (congrArg (fun z => T0.setTop (mkF m 398 #[.val (.int i0), .val (.int i1), .val (.int i2), .val (.int i3), .val (.int i4), .val (.int i5), .val (.int i6), .val (.int i7), .val (.int i8), .val (.int i9), .val (.int i10), .val (.int i11), .val (.int i12), .val (.int i13), .val (.int i14), .val (.int i15), .val (.ref (n0 + ob16)), .val (.ref (n0 + ob17)), .val (.ref (n0 + ob18)), .val (.ref (n0 + ob19)), .val (.int i20), .val (.int i21), .val (.int i22), .val (.int i23), .val (.int i24), .val (.int i25), .val (.int i26), .val (.int t0), .val (.int v56), .val (.int v57), .unset, .unset, .unset, .unset, .unset, .unset] [(.int z)])) hv58) ?_
    show Steps p.tables e below (T0.setTop (mkF m 398 #[.val (.int i0), .val (.int i1), .val (.int i2), .val (.int i3), .val (.int i4), .val (.int i5), .val (.int i6), .val (.int i7), .val (.int i8), .val (.int i9), .val (.int i10), .val (.int i11), .val (.int i12), .val (.int i13), .val (.int i14), .val (.int i15), .val (.ref (n0 + ob16)), .val (.ref (n0 + ob17)), .val (.ref (n0 + ob18)), .val (.ref (n0 + ob19)), .val (.int i20), .val (.int i21), .val (.int i22), .val (.int i23), .val (.int i24), .val (.int i25), .val (.int i26), .val (.int t0), .val (.int v56), .val (.int v57), .unset, .unset, .unset, .unset, .unset, .unset] [(.int v58)])) _
    refine XS.istore X0.here hx rfl (hb hby at_398) rfl (l' := #[.val (.int i0), .val (.int i1), .val (.int i2), .val (.int i3), .val (.int i4), .val (.int i5), .val (.int i6), .val (.int i7), .val (.int i8), .val (.int i9), .val (.int i10), .val (.int i11), .val (.int i12), .val (.int i13), .val (.int i14), .val (.int i15), .val (.ref (n0 + ob16)), .val (.ref (n0 + ob17)), .val (.ref (n0 + ob18)), .val (.ref (n0 + ob19)), .val (.int i20), .val (.int i21), .val (.int i22), .val (.int i23), .val (.int i24), .val (.int i25), .val (.int i26), .val (.int t0), .val (.int v56), .val (.int v57), .val (.int v58), .unset, .unset, .unset, .unset, .unset]) rfl ?_
    show Steps p.tables e below (T0.setTop (mkF m 400 #[.val (.int i0), .val (.int i1), .val (.int i2), .val (.int i3), .val (.int i4), .val (.int i5), .val (.int i6), .val (.int i7), .val (.int i8), .val (.int i9), .val (.int i10), .val (.int i11), .val (.int i12), .val (.int i13), .val (.int i14), .val (.int i15), .val (.ref (n0 + ob16)), .val (.ref (n0 + ob17)), .val (.ref (n0 + ob18)), .val (.ref (n0 + ob19)), .val (.int i20), .val (.int i21), .val (.int i22), .val (.int i23), .val (.int i24), .val (.int i25), .val (.int i26), .val (.int t0), .val (.int v56), .val (.int v57), .val (.int v58), .unset, .unset, .unset, .unset, .unset] [])) _
    refine XS.iload X0.here hx rfl (hb hby at_400) rfl ?_
    show Steps p.tables e below (T0.setTop (mkF m 402 #[.val (.int i0), .val (.int i1), .val (.int i2), .val (.int i3), .val (.int i4), .val (.int i5), .val (.int i6), .val (.int i7), .val (.int i8), .val (.int i9), .val (.int i10), .val (.int i11), .val (.int i12), .val (.int i13), .val (.int i14), .val (.int i15), .val (.ref (n0 + ob16)), .val (.ref (n0 + ob17)), .val (.ref (n0 + ob18)), .val (.ref (n0 + ob19)), .val (.int i20), .val (.int i21), .val (.int i22), .val (.int i23), .val (.int i24), .val (.int i25), .val (.int i26), .val (.int t0), .val (.int v56), .val (.int v57), .val (.int v58), .unset, .unset, .unset, .unset, .unset] [(.int i25)])) _
    refine XS.iload X0.here hx rfl (hb hby at_402) rfl ?_
    show Steps p.tables e below (T0.setTop (mkF m 404 #[.val (.int i0), .val (.int i1), .val (.int i2), .val (.int i3), .val (.int i4), .val (.int i5), .val (.int i6), .val (.int i7), .val (.int i8), .val (.int i9), .val (.int i10), .val (.int i11), .val (.int i12), .val (.int i13), .val (.int i14), .val (.int i15), .val (.ref (n0 + ob16)), .val (.ref (n0 + ob17)), .val (.ref (n0 + ob18)), .val (.ref (n0 + ob19)), .val (.int i20), .val (.int i21), .val (.int i22), .val (.int i23), .val (.int i24), .val (.int i25), .val (.int i26), .val (.int t0), .val (.int v56), .val (.int v57), .val (.int v58), .unset, .unset, .unset, .unset, .unset] [(.int i12), (.int i25)])) _
    refine XS.iload X0.here hx rfl (hb hby at_404) rfl ?_
    show Steps p.tables e below (T0.setTop (mkF m 406 #[.val (.int i0), .val (.int i1), .val (.int i2), .val (.int i3), .val (.int i4), .val (.int i5), .val (.int i6), .val (.int i7), .val (.int i8), .val (.int i9), .val (.int i10), .val (.int i11), .val (.int i12), .val (.int i13), .val (.int i14), .val (.int i15), .val (.ref (n0 + ob16)), .val (.ref (n0 + ob17)), .val (.ref (n0 + ob18)), .val (.ref (n0 + ob19)), .val (.int i20), .val (.int i21), .val (.int i22), .val (.int i23), .val (.int i24), .val (.int i25), .val (.int i26), .val (.int t0), .val (.int v56), .val (.int v57), .val (.int v58), .unset, .unset, .unset, .unset, .unset] [(.int i8), (.int i12), (.int i25)])) _
    refine XS.imul X0.here hx rfl (hb hby at_406) rfl ?_
    show Steps p.tables e below (T0.setTop (mkF m 407 #[.val (.int i0), .val (.int i1), .val (.int i2), .val (.int i3), .val (.int i4), .val (.int i5), .val (.int i6), .val (.int i7), .val (.int i8), .val (.int i9), .val (.int i10), .val (.int i11), .val (.int i12), .val (.int i13), .val (.int i14), .val (.int i15), .val (.ref (n0 + ob16)), .val (.ref (n0 + ob17)), .val (.ref (n0 + ob18)), .val (.ref (n0 + ob19)), .val (.int i20), .val (.int i21), .val (.int i22), .val (.int i23), .val (.int i24), .val (.int i25), .val (.int i26), .val (.int t0), .val (.int v56), .val (.int v57), .val (.int v58), .unset, .unset, .unset, .unset, .unset] [(.int (i12 * i8)), (.int i25)])) _
    refine XS.iadd X0.here hx rfl (hb hby at_407) rfl ?_
    show Steps p.tables e below (T0.setTop (mkF m 408 #[.val (.int i0), .val (.int i1), .val (.int i2), .val (.int i3), .val (.int i4), .val (.int i5), .val (.int i6), .val (.int i7), .val (.int i8), .val (.int i9), .val (.int i10), .val (.int i11), .val (.int i12), .val (.int i13), .val (.int i14), .val (.int i15), .val (.ref (n0 + ob16)), .val (.ref (n0 + ob17)), .val (.ref (n0 + ob18)), .val (.ref (n0 + ob19)), .val (.int i20), .val (.int i21), .val (.int i22), .val (.int i23), .val (.int i24), .val (.int i25), .val (.int i26), .val (.int t0), .val (.int v56), .val (.int v57), .val (.int v58), .unset, .unset, .unset, .unset, .unset] [(.int (i25 + (i12 * i8)))])) _
    refine XS.iload X0.here hx rfl (hb hby at_408) rfl ?_
    show Steps p.tables e below (T0.setTop (mkF m 410 #[.val (.int i0), .val (.int i1), .val (.int i2), .val (.int i3), .val (.int i4), .val (.int i5), .val (.int i6), .val (.int i7), .val (.int i8), .val (.int i9), .val (.int i10), .val (.int i11), .val (.int i12), .val (.int i13), .val (.int i14), .val (.int i15), .val (.ref (n0 + ob16)), .val (.ref (n0 + ob17)), .val (.ref (n0 + ob18)), .val (.ref (n0 + ob19)), .val (.int i20), .val (.int i21), .val (.int i22), .val (.int i23), .val (.int i24), .val (.int i25), .val (.int i26), .val (.int t0), .val (.int v56), .val (.int v57), .val (.int v58), .unset, .unset, .unset, .unset, .unset] [(.int i14), (.int (i25 + (i12 * i8)))])) _
    refine XS.iadd X0.here hx rfl (hb hby at_410) rfl ?_
    show Steps p.tables e below (T0.setTop (mkF m 411 #[.val (.int i0), .val (.int i1), .val (.int i2), .val (.int i3), .val (.int i4), .val (.int i5), .val (.int i6), .val (.int i7), .val (.int i8), .val (.int i9), .val (.int i10), .val (.int i11), .val (.int i12), .val (.int i13), .val (.int i14), .val (.int i15), .val (.ref (n0 + ob16)), .val (.ref (n0 + ob17)), .val (.ref (n0 + ob18)), .val (.ref (n0 + ob19)), .val (.int i20), .val (.int i21), .val (.int i22), .val (.int i23), .val (.int i24), .val (.int i25), .val (.int i26), .val (.int t0), .val (.int v56), .val (.int v57), .val (.int v58), .unset, .unset, .unset, .unset, .unset] [(.int ((i25 + (i12 * i8)) + i14))])) _
    refine own_to (congrArg (fun z => T0.setTop (mkF m 411 #[.val (.int i0), .val (.int i1), .val (.int i2), .val (.int i3), .val (.int i4), .val (.int i5), .val (.int i6), .val (.int i7), .val (.int i8), .val (.int i9), .val (.int i10), .val (.int i11), .val (.int i12), .val (.int i13), .val (.int i14), .val (.int i15), .val (.ref (n0 + ob16)), .val (.ref (n0 + ob17)), .val (.ref (n0 + ob18)), .val (.ref (n0 + ob19)), .val (.int i20), .val (.int i21), .val (.int i22), .val (.int i23), .val (.int i24), .val (.int i25), .val (.int i26), .val (.int t0), .val (.int v56), .val (.int v57), .val (.int v58), .unset, .unset, .unset, .unset, .unset] [(.int z)])) hv59) ?_
    show Steps p.tables e below (T0.setTop (mkF m 411 #[.val (.int i0), .val (.int i1), .val (.int i2), .val (.int i3), .val (.int i4), .val (.int i5), .val (.int i6), .val (.int i7), .val (.int i8), .val (.int i9), .val (.int i10), .val (.int i11), .val (.int i12), .val (.int i13), .val (.int i14), .val (.int i15), .val (.ref (n0 + ob16)), .val (.ref (n0 + ob17)), .val (.ref (n0 + ob18)), .val (.ref (n0 + ob19)), .val (.int i20), .val (.int i21), .val (.int i22), .val (.int i23), .val (.int i24), .val (.int i25), .val (.int i26), .val (.int t0), .val (.int v56), .val (.int v57), .val (.int v58), .unset, .unset, .unset, .unset, .unset] [(.int v59)])) _
    refine XS.istore X0.here hx rfl (hb hby at_411) rfl (l' := #[.val (.int i0), .val (.int i1), .val (.int i2), .val (.int i3), .val (.int i4), .val (.int i5), .val (.int i6), .val (.int i7), .val (.int i8), .val (.int i9), .val (.int i10), .val (.int i11), .val (.int i12), .val (.int i13), .val (.int i14), .val (.int i15), .val (.ref (n0 + ob16)), .val (.ref (n0 + ob17)), .val (.ref (n0 + ob18)), .val (.ref (n0 + ob19)), .val (.int i20), .val (.int i21), .val (.int i22), .val (.int i23), .val (.int i24), .val (.int i25), .val (.int i26), .val (.int t0), .val (.int v56), .val (.int v57), .val (.int v58), .val (.int v59), .unset, .unset, .unset, .unset]) rfl ?_
    show Steps p.tables e below (T0.setTop (mkF m 413 #[.val (.int i0), .val (.int i1), .val (.int i2), .val (.int i3), .val (.int i4), .val (.int i5), .val (.int i6), .val (.int i7), .val (.int i8), .val (.int i9), .val (.int i10), .val (.int i11), .val (.int i12), .val (.int i13), .val (.int i14), .val (.int i15), .val (.ref (n0 + ob16)), .val (.ref (n0 + ob17)), .val (.ref (n0 + ob18)), .val (.ref (n0 + ob19)), .val (.int i20), .val (.int i21), .val (.int i22), .val (.int i23), .val (.int i24), .val (.int i25), .val (.int i26), .val (.int t0), .val (.int v56), .val (.int v57), .val (.int v58), .val (.int v59), .unset, .unset, .unset, .unset] [])) _
    refine XS.iload X0.here hx rfl (hb hby at_413) rfl ?_
    show Steps p.tables e below (T0.setTop (mkF m 415 #[.val (.int i0), .val (.int i1), .val (.int i2), .val (.int i3), .val (.int i4), .val (.int i5), .val (.int i6), .val (.int i7), .val (.int i8), .val (.int i9), .val (.int i10), .val (.int i11), .val (.int i12), .val (.int i13), .val (.int i14), .val (.int i15), .val (.ref (n0 + ob16)), .val (.ref (n0 + ob17)), .val (.ref (n0 + ob18)), .val (.ref (n0 + ob19)), .val (.int i20), .val (.int i21), .val (.int i22), .val (.int i23), .val (.int i24), .val (.int i25), .val (.int i26), .val (.int t0), .val (.int v56), .val (.int v57), .val (.int v58), .val (.int v59), .unset, .unset, .unset, .unset] [(.int i26)])) _
    refine XS.iload X0.here hx rfl (hb hby at_415) rfl ?_
    show Steps p.tables e below (T0.setTop (mkF m 417 #[.val (.int i0), .val (.int i1), .val (.int i2), .val (.int i3), .val (.int i4), .val (.int i5), .val (.int i6), .val (.int i7), .val (.int i8), .val (.int i9), .val (.int i10), .val (.int i11), .val (.int i12), .val (.int i13), .val (.int i14), .val (.int i15), .val (.ref (n0 + ob16)), .val (.ref (n0 + ob17)), .val (.ref (n0 + ob18)), .val (.ref (n0 + ob19)), .val (.int i20), .val (.int i21), .val (.int i22), .val (.int i23), .val (.int i24), .val (.int i25), .val (.int i26), .val (.int t0), .val (.int v56), .val (.int v57), .val (.int v58), .val (.int v59), .unset, .unset, .unset, .unset] [(.int i12), (.int i26)])) _
    refine XS.iload X0.here hx rfl (hb hby at_417) rfl ?_
    show Steps p.tables e below (T0.setTop (mkF m 419 #[.val (.int i0), .val (.int i1), .val (.int i2), .val (.int i3), .val (.int i4), .val (.int i5), .val (.int i6), .val (.int i7), .val (.int i8), .val (.int i9), .val (.int i10), .val (.int i11), .val (.int i12), .val (.int i13), .val (.int i14), .val (.int i15), .val (.ref (n0 + ob16)), .val (.ref (n0 + ob17)), .val (.ref (n0 + ob18)), .val (.ref (n0 + ob19)), .val (.int i20), .val (.int i21), .val (.int i22), .val (.int i23), .val (.int i24), .val (.int i25), .val (.int i26), .val (.int t0), .val (.int v56), .val (.int v57), .val (.int v58), .val (.int v59), .unset, .unset, .unset, .unset] [(.int i9), (.int i12), (.int i26)])) _
    refine XS.imul X0.here hx rfl (hb hby at_419) rfl ?_
    show Steps p.tables e below (T0.setTop (mkF m 420 #[.val (.int i0), .val (.int i1), .val (.int i2), .val (.int i3), .val (.int i4), .val (.int i5), .val (.int i6), .val (.int i7), .val (.int i8), .val (.int i9), .val (.int i10), .val (.int i11), .val (.int i12), .val (.int i13), .val (.int i14), .val (.int i15), .val (.ref (n0 + ob16)), .val (.ref (n0 + ob17)), .val (.ref (n0 + ob18)), .val (.ref (n0 + ob19)), .val (.int i20), .val (.int i21), .val (.int i22), .val (.int i23), .val (.int i24), .val (.int i25), .val (.int i26), .val (.int t0), .val (.int v56), .val (.int v57), .val (.int v58), .val (.int v59), .unset, .unset, .unset, .unset] [(.int (i12 * i9)), (.int i26)])) _
    refine XS.iadd X0.here hx rfl (hb hby at_420) rfl ?_
    show Steps p.tables e below (T0.setTop (mkF m 421 #[.val (.int i0), .val (.int i1), .val (.int i2), .val (.int i3), .val (.int i4), .val (.int i5), .val (.int i6), .val (.int i7), .val (.int i8), .val (.int i9), .val (.int i10), .val (.int i11), .val (.int i12), .val (.int i13), .val (.int i14), .val (.int i15), .val (.ref (n0 + ob16)), .val (.ref (n0 + ob17)), .val (.ref (n0 + ob18)), .val (.ref (n0 + ob19)), .val (.int i20), .val (.int i21), .val (.int i22), .val (.int i23), .val (.int i24), .val (.int i25), .val (.int i26), .val (.int t0), .val (.int v56), .val (.int v57), .val (.int v58), .val (.int v59), .unset, .unset, .unset, .unset] [(.int (i26 + (i12 * i9)))])) _
    refine XS.iload X0.here hx rfl (hb hby at_421) rfl ?_
    show Steps p.tables e below (T0.setTop (mkF m 423 #[.val (.int i0), .val (.int i1), .val (.int i2), .val (.int i3), .val (.int i4), .val (.int i5), .val (.int i6), .val (.int i7), .val (.int i8), .val (.int i9), .val (.int i10), .val (.int i11), .val (.int i12), .val (.int i13), .val (.int i14), .val (.int i15), .val (.ref (n0 + ob16)), .val (.ref (n0 + ob17)), .val (.ref (n0 + ob18)), .val (.ref (n0 + ob19)), .val (.int i20), .val (.int i21), .val (.int i22), .val (.int i23), .val (.int i24), .val (.int i25), .val (.int i26), .val (.int t0), .val (.int v56), .val (.int v57), .val (.int v58), .val (.int v59), .unset, .unset, .unset, .unset] [(.int i15), (.int (i26 + (i12 * i9)))])) _
    refine XS.iadd X0.here hx rfl (hb hby at_423) rfl ?_
    show Steps p.tables e below (T0.setTop (mkF m 424 #[.val (.int i0), .val (.int i1), .val (.int i2), .val (.int i3), .val (.int i4), .val (.int i5), .val (.int i6), .val (.int i7), .val (.int i8), .val (.int i9), .val (.int i10), .val (.int i11), .val (.int i12), .val (.int i13), .val (.int i14), .val (.int i15), .val (.ref (n0 + ob16)), .val (.ref (n0 + ob17)), .val (.ref (n0 + ob18)), .val (.ref (n0 + ob19)), .val (.int i20), .val (.int i21), .val (.int i22), .val (.int i23), .val (.int i24), .val (.int i25), .val (.int i26), .val (.int t0), .val (.int v56), .val (.int v57), .val (.int v58), .val (.int v59), .unset, .unset, .unset, .unset] [(.int ((i26 + (i12 * i9)) + i15))])) _
    refine own_to (congrArg (fun z => T0.setTop (mkF m 424 #[.val (.int i0), .val (.int i1), .val (.int i2), .val (.int i3), .val (.int i4), .val (.int i5), .val (.int i6), .val (.int i7), .val (.int i8), .val (.int i9), .val (.int i10), .val (.int i11), .val (.int i12), .val (.int i13), .val (.int i14), .val (.int i15), .val (.ref (n0 + ob16)), .val (.ref (n0 + ob17)), .val (.ref (n0 + ob18)), .val (.ref (n0 + ob19)), .val (.int i20), .val (.int i21), .val (.int i22), .val (.int i23), .val (.int i24), .val (.int i25), .val (.int i26), .val (.int t0), .val (.int v56), .val (.int v57), .val (.int v58), .val (.int v59), .unset, .unset, .unset, .unset] [(.int z)])) hv60) ?_
    show Steps p.tables e below (T0.setTop (mkF m 424 #[.val (.int i0), .val (.int i1), .val (.int i2), .val (.int i3), .val (.int i4), .val (.int i5), .val (.int i6), .val (.int i7), .val (.int i8), .val (.int i9), .val (.int i10), .val (.int i11), .val (.int i12), .val (.int i13), .val (.int i14), .val (.int i15), .val (.ref (n0 + ob16)), .val (.ref (n0 + ob17)), .val (.ref (n0 + ob18)), .val (.ref (n0 + ob19)), .val (.int i20), .val (.int i21), .val (.int i22), .val (.int i23), .val (.int i24), .val (.int i25), .val (.int i26), .val (.int t0), .val (.int v56), .val (.int v57), .val (.int v58), .val (.int v59), .unset, .unset, .unset, .unset] [(.int v60)])) _
    refine XS.istore X0.here hx rfl (hb hby at_424) rfl (l' := #[.val (.int i0), .val (.int i1), .val (.int i2), .val (.int i3), .val (.int i4), .val (.int i5), .val (.int i6), .val (.int i7), .val (.int i8), .val (.int i9), .val (.int i10), .val (.int i11), .val (.int i12), .val (.int i13), .val (.int i14), .val (.int i15), .val (.ref (n0 + ob16)), .val (.ref (n0 + ob17)), .val (.ref (n0 + ob18)), .val (.ref (n0 + ob19)), .val (.int i20), .val (.int i21), .val (.int i22), .val (.int i23), .val (.int i24), .val (.int i25), .val (.int i26), .val (.int t0), .val (.int v56), .val (.int v57), .val (.int v58), .val (.int v59), .val (.int v60), .unset, .unset, .unset]) rfl ?_
    show Steps p.tables e below (T0.setTop (mkF m 426 #[.val (.int i0), .val (.int i1), .val (.int i2), .val (.int i3), .val (.int i4), .val (.int i5), .val (.int i6), .val (.int i7), .val (.int i8), .val (.int i9), .val (.int i10), .val (.int i11), .val (.int i12), .val (.int i13), .val (.int i14), .val (.int i15), .val (.ref (n0 + ob16)), .val (.ref (n0 + ob17)), .val (.ref (n0 + ob18)), .val (.ref (n0 + ob19)), .val (.int i20), .val (.int i21), .val (.int i22), .val (.int i23), .val (.int i24), .val (.int i25), .val (.int i26), .val (.int t0), .val (.int v56), .val (.int v57), .val (.int v58), .val (.int v59), .val (.int v60), .unset, .unset, .unset] [])) _
    refine XS.iload X0.here hx rfl (hb hby at_426) rfl ?_
    show Steps p.tables e below (T0.setTop (mkF m 428 #[.val (.int i0), .val (.int i1), .val (.int i2), .val (.int i3), .val (.int i4), .val (.int i5), .val (.int i6), .val (.int i7), .val (.int i8), .val (.int i9), .val (.int i10), .val (.int i11), .val (.int i12), .val (.int i13), .val (.int i14), .val (.int i15), .val (.ref (n0 + ob16)), .val (.ref (n0 + ob17)), .val (.ref (n0 + ob18)), .val (.ref (n0 + ob19)), .val (.int i20), .val (.int i21), .val (.int i22), .val (.int i23), .val (.int i24), .val (.int i25), .val (.int i26), .val (.int t0), .val (.int v56), .val (.int v57), .val (.int v58), .val (.int v59), .val (.int v60), .unset, .unset, .unset] [(.int t0)])) _
    refine XS.iload X0.here hx rfl (hb hby at_428) rfl ?_
    show Steps p.tables e below (T0.setTop (mkF m 430 #[.val (.int i0), .val (.int i1), .val (.int i2), .val (.int i3), .val (.int i4), .val (.int i5), .val (.int i6), .val (.int i7), .val (.int i8), .val (.int i9), .val (.int i10), .val (.int i11), .val (.int i12), .val (.int i13), .val (.int i14), .val (.int i15), .val (.ref (n0 + ob16)), .val (.ref (n0 + ob17)), .val (.ref (n0 + ob18)), .val (.ref (n0 + ob19)), .val (.int i20), .val (.int i21), .val (.int i22), .val (.int i23), .val (.int i24), .val (.int i25), .val (.int i26), .val (.int t0), .val (.int v56), .val (.int v57), .val (.int v58), .val (.int v59), .val (.int v60), .unset, .unset, .unset] [(.int i13), (.int t0)])) _
    refine XS.iload X0.here hx rfl (hb hby at_430) rfl ?_
    show Steps p.tables e below (T0.setTop (mkF m 432 #[.val (.int i0), .val (.int i1), .val (.int i2), .val (.int i3), .val (.int i4), .val (.int i5), .val (.int i6), .val (.int i7), .val (.int i8), .val (.int i9), .val (.int i10), .val (.int i11), .val (.int i12), .val (.int i13), .val (.int i14), .val (.int i15), .val (.ref (n0 + ob16)), .val (.ref (n0 + ob17)), .val (.ref (n0 + ob18)), .val (.ref (n0 + ob19)), .val (.int i20), .val (.int i21), .val (.int i22), .val (.int i23), .val (.int i24), .val (.int i25), .val (.int i26), .val (.int t0), .val (.int v56), .val (.int v57), .val (.int v58), .val (.int v59), .val (.int v60), .unset, .unset, .unset] [(.int i8), (.int i13), (.int t0)])) _
    refine XS.imul X0.here hx rfl (hb hby at_432) rfl ?_
    show Steps p.tables e below (T0.setTop (mkF m 433 #[.val (.int i0), .val (.int i1), .val (.int i2), .val (.int i3), .val (.int i4), .val (.int i5), .val (.int i6), .val (.int i7), .val (.int i8), .val (.int i9), .val (.int i10), .val (.int i11), .val (.int i12), .val (.int i13), .val (.int i14), .val (.int i15), .val (.ref (n0 + ob16)), .val (.ref (n0 + ob17)), .val (.ref (n0 + ob18)), .val (.ref (n0 + ob19)), .val (.int i20), .val (.int i21), .val (.int i22), .val (.int i23), .val (.int i24), .val (.int i25), .val (.int i26), .val (.int t0), .val (.int v56), .val (.int v57), .val (.int v58), .val (.int v59), .val (.int v60), .unset, .unset, .unset] [(.int (i13 * i8)), (.int t0)])) _
    refine XS.iadd X0.here hx rfl (hb hby at_433) rfl ?_
    show Steps p.tables e below (T0.setTop (mkF m 434 #[.val (.int i0), .val (.int i1), .val (.int i2), .val (.int i3), .val (.int i4), .val (.int i5), .val (.int i6), .val (.int i7), .val (.int i8), .val (.int i9), .val (.int i10), .val (.int i11), .val (.int i12), .val (.int i13), .val (.int i14), .val (.int i15), .val (.ref (n0 + ob16)), .val (.ref (n0 + ob17)), .val (.ref (n0 + ob18)), .val (.ref (n0 + ob19)), .val (.int i20), .val (.int i21), .val (.int i22), .val (.int i23), .val (.int i24), .val (.int i25), .val (.int i26), .val (.int t0), .val (.int v56), .val (.int v57), .val (.int v58), .val (.int v59), .val (.int v60), .unset, .unset, .unset] [(.int (t0 + (i13 * i8)))])) _
    refine XS.iload X0.here hx rfl (hb hby at_434) rfl ?_
    show Steps p.tables e below (T0.setTop (mkF m 436 #[.val (.int i0), .val (.int i1), .val (.int i2), .val (.int i3), .val (.int i4), .val (.int i5), .val (.int i6), .val (.int i7), .val (.int i8), .val (.int i9), .val (.int i10), .val (.int i11), .val (.int i12), .val (.int i13), .val (.int i14), .val (.int i15), .val (.ref (n0 + ob16)), .val (.ref (n0 + ob17)), .val (.ref (n0 + ob18)), .val (.ref (n0 + ob19)), .val (.int i20), .val (.int i21), .val (.int i22), .val (.int i23), .val (.int i24), .val (.int i25), .val (.int i26), .val (.int t0), .val (.int v56), .val (.int v57), .val (.int v58), .val (.int v59), .val (.int v60), .unset, .unset, .unset] [(.int i14), (.int (t0 + (i13 * i8)))])) _
    refine XS.iadd X0.here hx rfl (hb hby at_436) rfl ?_
    show Steps p.tables e below (T0.setTop (mkF m 437 #[.val (.int i0), .val (.int i1), .val (.int i2), .val (.int i3), .val (.int i4), .val (.int i5), .val (.int i6), .val (.int i7), .val (.int i8), .val (.int i9), .val (.int i10), .val (.int i11), .val (.int i12), .val (.int i13), .val (.int i14), .val (.int i15), .val (.ref (n0 + ob16)), .val (.ref (n0 + ob17)), .val (.ref (n0 + ob18)), .val (.ref (n0 + ob19)), .val (.int i20), .val (.int i21), .val (.int i22), .val (.int i23), .val (.int i24), .val (.int i25), .val (.int i26), .val (.int t0), .val (.int v56), .val (.int v57), .val (.int v58), .val (.int v59), .val (.int v60), .unset, .unset, .unset] [(.int ((t0 + (i13 * i8)) + i14))])) _
    refine own_to (congrArg (fun z => T0.setTop (mkF m 437 #[.val (.int i0), .val (.int i1), .val (.int i2), .val (.int i3), .val (.int i4), .val (.int i5), .val (.int i6), .val (.int i7), .val (.int i8), .val (.int i9), .val (.int i10), .val (.int i11), .val (.int i12), .val (.int i13), .val (.int i14), .val (.int i15), .val (.ref (n0 + ob16)), .val (.ref (n0 + ob17)), .val (.ref (n0 + ob18)), .val (.ref (n0 + ob19)), .val (.int i20), .val (.int i21), .val (.int i22), .val (.int i23), .val (.int i24), .val (.int i25), .val (.int i26), .val (.int t0), .val (.int v56), .val (.int v57), .val (.int v58), .val (.int v59), .val (.int v60), .unset, .unset, .unset] [(.int z)])) hv61) ?_
    show Steps p.tables e below (T0.setTop (mkF m 437 #[.val (.int i0), .val (.int i1), .val (.int i2), .val (.int i3), .val (.int i4), .val (.int i5), .val (.int i6), .val (.int i7), .val (.int i8), .val (.int i9), .val (.int i10), .val (.int i11), .val (.int i12), .val (.int i13), .val (.int i14), .val (.int i15), .val (.ref (n0 + ob16)), .val (.ref (n0 + ob17)), .val (.ref (n0 + ob18)), .val (.ref (n0 + ob19)), .val (.int i20), .val (.int i21), .val (.int i22), .val (.int i23), .val (.int i24), .val (.int i25), .val (.int i26), .val (.int t0), .val (.int v56), .val (.int v57), .val (.int v58), .val (.int v59), .val (.int v60), .unset, .unset, .unset] [(.int v61)])) _
    refine XS.istore X0.here hx rfl (hb hby at_437) rfl (l' := #[.val (.int i0), .val (.int i1), .val (.int i2), .val (.int i3), .val (.int i4), .val (.int i5), .val (.int i6), .val (.int i7), .val (.int i8), .val (.int i9), .val (.int i10), .val (.int i11), .val (.int i12), .val (.int i13), .val (.int i14), .val (.int i15), .val (.ref (n0 + ob16)), .val (.ref (n0 + ob17)), .val (.ref (n0 + ob18)), .val (.ref (n0 + ob19)), .val (.int i20), .val (.int i21), .val (.int i22), .val (.int i23), .val (.int i24), .val (.int i25), .val (.int i26), .val (.int t0), .val (.int v56), .val (.int v57), .val (.int v58), .val (.int v59), .val (.int v60), .val (.int v61), .unset, .unset]) rfl ?_
    show Steps p.tables e below (T0.setTop (mkF m 439 #[.val (.int i0), .val (.int i1), .val (.int i2), .val (.int i3), .val (.int i4), .val (.int i5), .val (.int i6), .val (.int i7), .val (.int i8), .val (.int i9), .val (.int i10), .val (.int i11), .val (.int i12), .val (.int i13), .val (.int i14), .val (.int i15), .val (.ref (n0 + ob16)), .val (.ref (n0 + ob17)), .val (.ref (n0 + ob18)), .val (.ref (n0 + ob19)), .val (.int i20), .val (.int i21), .val (.int i22), .val (.int i23), .val (.int i24), .val (.int i25), .val (.int i26), .val (.int t0), .val (.int v56), .val (.int v57), .val (.int v58), .val (.int v59), .val (.int v60), .val (.int v61), .unset, .unset] [])) _
    refine XS.iload X0.here hx rfl (hb hby at_439) rfl ?_
    show Steps p.tables e below (T0.setTop (mkF m 441 #[.val (.int i0), .val (.int i1), .val (.int i2), .val (.int i3), .val (.int i4), .val (.int i5), .val (.int i6), .val (.int i7), .val (.int i8), .val (.int i9), .val (.int i10), .val (.int i11), .val (.int i12), .val (.int i13), .val (.int i14), .val (.int i15), .val (.ref (n0 + ob16)), .val (.ref (n0 + ob17)), .val (.ref (n0 + ob18)), .val (.ref (n0 + ob19)), .val (.int i20), .val (.int i21), .val (.int i22), .val (.int i23), .val (.int i24), .val (.int i25), .val (.int i26), .val (.int t0), .val (.int v56), .val (.int v57), .val (.int v58), .val (.int v59), .val (.int v60), .val (.int v61), .unset, .unset] [(.int v56)])) _
    refine XS.iload X0.here hx rfl (hb hby at_441) rfl ?_
    show Steps p.tables e below (T0.setTop (mkF m 443 #[.val (.int i0), .val (.int i1), .val (.int i2), .val (.int i3), .val (.int i4), .val (.int i5), .val (.int i6), .val (.int i7), .val (.int i8), .val (.int i9), .val (.int i10), .val (.int i11), .val (.int i12), .val (.int i13), .val (.int i14), .val (.int i15), .val (.ref (n0 + ob16)), .val (.ref (n0 + ob17)), .val (.ref (n0 + ob18)), .val (.ref (n0 + ob19)), .val (.int i20), .val (.int i21), .val (.int i22), .val (.int i23), .val (.int i24), .val (.int i25), .val (.int i26), .val (.int t0), .val (.int v56), .val (.int v57), .val (.int v58), .val (.int v59), .val (.int v60), .val (.int v61), .unset, .unset] [(.int i13), (.int v56)])) _
    refine XS.iload X0.here hx rfl (hb hby at_443) rfl ?_
    show Steps p.tables e below (T0.setTop (mkF m 445 #[.val (.int i0), .val (.int i1), .val (.int i2), .val (.int i3), .val (.int i4), .val (.int i5), .val (.int i6), .val (.int i7), .val (.int i8), .val (.int i9), .val (.int i10), .val (.int i11), .val (.int i12), .val (.int i13), .val (.int i14), .val (.int i15), .val (.ref (n0 + ob16)), .val (.ref (n0 + ob17)), .val (.ref (n0 + ob18)), .val (.ref (n0 + ob19)), .val (.int i20), .val (.int i21), .val (.int i22), .val (.int i23), .val (.int i24), .val (.int i25), .val (.int i26), .val (.int t0), .val (.int v56), .val (.int v57), .val (.int v58), .val (.int v59), .val (.int v60), .val (.int v61), .unset, .unset] [(.int i9), (.int i13), (.int v56)])) _
    refine XS.imul X0.here hx rfl (hb hby at_445) rfl ?_
    show Steps p.tables e below (T0.setTop (mkF m 446 #[.val (.int i0), .val (.int i1), .val (.int i2), .val (.int i3), .val (.int i4), .val (.int i5), .val (.int i6), .val (.int i7), .val (.int i8), .val (.int i9), .val (.int i10), .val (.int i11), .val (.int i12), .val (.int i13), .val (.int i14), .val (.int i15), .val (.ref (n0 + ob16)), .val (.ref (n0 + ob17)), .val (.ref (n0 + ob18)), .val (.ref (n0 + ob19)), .val (.int i20), .val (.int i21), .val (.int i22), .val (.int i23), .val (.int i24), .val (.int i25), .val (.int i26), .val (.int t0), .val (.int v56), .val (.int v57), .val (.int v58), .val (.int v59), .val (.int v60), .val (.int v61), .unset, .unset] [(.int (i13 * i9)), (.int v56)])) _
    refine XS.iadd X0.here hx rfl (hb hby at_446) rfl ?_
    show Steps p.tables e below (T0.setTop (mkF m 447 #[.val (.int i0), .val (.int i1), .val (.int i2), .val (.int i3), .val (.int i4), .val (.int i5), .val (.int i6), .val (.int i7), .val (.int i8), .val (.int i9), .val (.int i10), .val (.int i11), .val (.int i12), .val (.int i13), .val (.int i14), .val (.int i15), .val (.ref (n0 + ob16)), .val (.ref (n0 + ob17)), .val (.ref (n0 + ob18)), .val (.ref (n0 + ob19)), .val (.int i20), .val (.int i21), .val (.int i22), .val (.int i23), .val (.int i24), .val (.int i25), .val (.int i26), .val (.int t0), .val (.int v56), .val (.int v57), .val (.int v58), .val (.int v59), .val (.int v60), .val (.int v61), .unset, .unset] [(.int (v56 + (i13 * i9)))])) _
    refine XS.iload X0.here hx rfl (hb hby at_447) rfl ?_
    show Steps p.tables e below (T0.setTop (mkF m 449 #[.val (.int i0), .val (.int i1), .val (.int i2), .val (.int i3), .val (.int i4), .val (.int i5), .val (.int i6), .val (.int i7), .val (.int i8), .val (.int i9), .val (.int i10), .val (.int i11), .val (.int i12), .val (.int i13), .val (.int i14), .val (.int i15), .val (.ref (n0 + ob16)), .val (.ref (n0 + ob17)), .val (.ref (n0 + ob18)), .val (.ref (n0 + ob19)), .val (.int i20), .val (.int i21), .val (.int i22), .val (.int i23), .val (.int i24), .val (.int i25), .val (.int i26), .val (.int t0), .val (.int v56), .val (.int v57), .val (.int v58), .val (.int v59), .val (.int v60), .val (.int v61), .unset, .unset] [(.int i15), (.int (v56 + (i13 * i9)))])) _
    refine XS.iadd X0.here hx rfl (hb hby at_449) rfl ?_
    show Steps p.tables e below (T0.setTop (mkF m 450 #[.val (.int i0), .val (.int i1), .val (.int i2), .val (.int i3), .val (.int i4), .val (.int i5), .val (.int i6), .val (.int i7), .val (.int i8), .val (.int i9), .val (.int i10), .val (.int i11), .val (.int i12), .val (.int i13), .val (.int i14), .val (.int i15), .val (.ref (n0 + ob16)), .val (.ref (n0 + ob17)), .val (.ref (n0 + ob18)), .val (.ref (n0 + ob19)), .val (.int i20), .val (.int i21), .val (.int i22), .val (.int i23), .val (.int i24), .val (.int i25), .val (.int i26), .val (.int t0), .val (.int v56), .val (.int v57), .val (.int v58), .val (.int v59), .val (.int v60), .val (.int v61), .unset, .unset] [(.int ((v56 + (i13 * i9)) + i15))])) _
    refine own_to (congrArg (fun z => T0.setTop (mkF m 450 #[.val (.int i0), .val (.int i1), .val (.int i2), .val (.int i3), .val (.int i4), .val (.int i5), .val (.int i6), .val (.int i7), .val (.int i8), .val (.int i9), .val (.int i10), .val (.int i11), .val (.int i12), .val (.int i13), .val (.int i14), .val (.int i15), .val (.ref (n0 + ob16)), .val (.ref (n0 + ob17)), .val (.ref (n0 + ob18)), .val (.ref (n0 + ob19)), .val (.int i20), .val (.int i21), .val (.int i22), .val (.int i23), .val (.int i24), .val (.int i25), .val (.int i26), .val (.int t0), .val (.int v56), .val (.int v57), .val (.int v58), .val (.int v59), .val (.int v60), .val (.int v61), .unset, .unset] [(.int z)])) hv62) ?_
    show Steps p.tables e below (T0.setTop (mkF m 450 #[.val (.int i0), .val (.int i1), .val (.int i2), .val (.int i3), .val (.int i4), .val (.int i5), .val (.int i6), .val (.int i7), .val (.int i8), .val (.int i9), .val (.int i10), .val (.int i11), .val (.int i12), .val (.int i13), .val (.int i14), .val (.int i15), .val (.ref (n0 + ob16)), .val (.ref (n0 + ob17)), .val (.ref (n0 + ob18)), .val (.ref (n0 + ob19)), .val (.int i20), .val (.int i21), .val (.int i22), .val (.int i23), .val (.int i24), .val (.int i25), .val (.int i26), .val (.int t0), .val (.int v56), .val (.int v57), .val (.int v58), .val (.int v59), .val (.int v60), .val (.int v61), .unset, .unset] [(.int v62)])) _
    refine XS.istore X0.here hx rfl (hb hby at_450) rfl (l' := #[.val (.int i0), .val (.int i1), .val (.int i2), .val (.int i3), .val (.int i4), .val (.int i5), .val (.int i6), .val (.int i7), .val (.int i8), .val (.int i9), .val (.int i10), .val (.int i11), .val (.int i12), .val (.int i13), .val (.int i14), .val (.int i15), .val (.ref (n0 + ob16)), .val (.ref (n0 + ob17)), .val (.ref (n0 + ob18)), .val (.ref (n0 + ob19)), .val (.int i20), .val (.int i21), .val (.int i22), .val (.int i23), .val (.int i24), .val (.int i25), .val (.int i26), .val (.int t0), .val (.int v56), .val (.int v57), .val (.int v58), .val (.int v59), .val (.int v60), .val (.int v61), .val (.int v62), .unset]) rfl ?_
    show Steps p.tables e below (T0.setTop (mkF m 452 #[.val (.int i0), .val (.int i1), .val (.int i2), .val (.int i3), .val (.int i4), .val (.int i5), .val (.int i6), .val (.int i7), .val (.int i8), .val (.int i9), .val (.int i10), .val (.int i11), .val (.int i12), .val (.int i13), .val (.int i14), .val (.int i15), .val (.ref (n0 + ob16)), .val (.ref (n0 + ob17)), .val (.ref (n0 + ob18)), .val (.ref (n0 + ob19)), .val (.int i20), .val (.int i21), .val (.int i22), .val (.int i23), .val (.int i24), .val (.int i25), .val (.int i26), .val (.int t0), .val (.int v56), .val (.int v57), .val (.int v58), .val (.int v59), .val (.int v60), .val (.int v61), .val (.int v62), .unset] [])) _
    refine XS.iload X0.here hx rfl (hb hby at_452) rfl ?_
    show Steps p.tables e below (T0.setTop (mkF m 454 #[.val (.int i0), .val (.int i1), .val (.int i2), .val (.int i3), .val (.int i4), .val (.int i5), .val (.int i6), .val (.int i7), .val (.int i8), .val (.int i9), .val (.int i10), .val (.int i11), .val (.int i12), .val (.int i13), .val (.int i14), .val (.int i15), .val (.ref (n0 + ob16)), .val (.ref (n0 + ob17)), .val (.ref (n0 + ob18)), .val (.ref (n0 + ob19)), .val (.int i20), .val (.int i21), .val (.int i22), .val (.int i23), .val (.int i24), .val (.int i25), .val (.int i26), .val (.int t0), .val (.int v56), .val (.int v57), .val (.int v58), .val (.int v59), .val (.int v60), .val (.int v61), .val (.int v62), .unset] [(.int v57)])) _
    refine XS.iload X0.here hx rfl (hb hby at_454) rfl ?_
    show Steps p.tables e below (T0.setTop (mkF m 456 #[.val (.int i0), .val (.int i1), .val (.int i2), .val (.int i3), .val (.int i4), .val (.int i5), .val (.int i6), .val (.int i7), .val (.int i8), .val (.int i9), .val (.int i10), .val (.int i11), .val (.int i12), .val (.int i13), .val (.int i14), .val (.int i15), .val (.ref (n0 + ob16)), .val (.ref (n0 + ob17)), .val (.ref (n0 + ob18)), .val (.ref (n0 + ob19)), .val (.int i20), .val (.int i21), .val (.int i22), .val (.int i23), .val (.int i24), .val (.int i25), .val (.int i26), .val (.int t0), .val (.int v56), .val (.int v57), .val (.int v58), .val (.int v59), .val (.int v60), .val (.int v61), .val (.int v62), .unset] [(.int i14), (.int v57)])) _
    refine XS.iload X0.here hx rfl (hb hby at_456) rfl ?_
    show Steps p.tables e below (T0.setTop (mkF m 458 #[.val (.int i0), .val (.int i1), .val (.int i2), .val (.int i3), .val (.int i4), .val (.int i5), .val (.int i6), .val (.int i7), .val (.int i8), .val (.int i9), .val (.int i10), .val (.int i11), .val (.int i12), .val (.int i13), .val (.int i14), .val (.int i15), .val (.ref (n0 + ob16)), .val (.ref (n0 + ob17)), .val (.ref (n0 + ob18)), .val (.ref (n0 + ob19)), .val (.int i20), .val (.int i21), .val (.int i22), .val (.int i23), .val (.int i24), .val (.int i25), .val (.int i26), .val (.int t0), .val (.int v56), .val (.int v57), .val (.int v58), .val (.int v59), .val (.int v60), .val (.int v61), .val (.int v62), .unset] [(.int i9), (.int i14), (.int v57)])) _
    refine XS.imul X0.here hx rfl (hb hby at_458) rfl ?_
    show Steps p.tables e below (T0.setTop (mkF m 459 #[.val (.int i0), .val (.int i1), .val (.int i2), .val (.int i3), .val (.int i4), .val (.int i5), .val (.int i6), .val (.int i7), .val (.int i8), .val (.int i9), .val (.int i10), .val (.int i11), .val (.int i12), .val (.int i13), .val (.int i14), .val (.int i15), .val (.ref (n0 + ob16)), .val (.ref (n0 + ob17)), .val (.ref (n0 + ob18)), .val (.ref (n0 + ob19)), .val (.int i20), .val (.int i21), .val (.int i22), .val (.int i23), .val (.int i24), .val (.int i25), .val (.int i26), .val (.int t0), .val (.int v56), .val (.int v57), .val (.int v58), .val (.int v59), .val (.int v60), .val (.int v61), .val (.int v62), .unset] [(.int (i14 * i9)), (.int v57)])) _
    refine XS.iadd X0.here hx rfl (hb hby at_459) rfl ?_
    show Steps p.tables e below (T0.setTop (mkF m 460 #[.val (.int i0), .val (.int i1), .val (.int i2), .val (.int i3), .val (.int i4), .val (.int i5), .val (.int i6), .val (.int i7), .val (.int i8), .val (.int i9), .val (.int i10), .val (.int i11), .val (.int i12), .val (.int i13), .val (.int i14), .val (.int i15), .val (.ref (n0 + ob16)), .val (.ref (n0 + ob17)), .val (.ref (n0 + ob18)), .val (.ref (n0 + ob19)), .val (.int i20), .val (.int i21), .val (.int i22), .val (.int i23), .val (.int i24), .val (.int i25), .val (.int i26), .val (.int t0), .val (.int v56), .val (.int v57), .val (.int v58), .val (.int v59), .val (.int v60), .val (.int v61), .val (.int v62), .unset] [(.int (v57 + (i14 * i9)))])) _
    refine XS.iload X0.here hx rfl (hb hby at_460) rfl ?_
    show Steps p.tables e below (T0.setTop (mkF m 462 #[.val (.int i0), .val (.int i1), .val (.int i2), .val (.int i3), .val (.int i4), .val (.int i5), .val (.int i6), .val (.int i7), .val (.int i8), .val (.int i9), .val (.int i10), .val (.int i11), .val (.int i12), .val (.int i13), .val (.int i14), .val (.int i15), .val (.ref (n0 + ob16)), .val (.ref (n0 + ob17)), .val (.ref (n0 + ob18)), .val (.ref (n0 + ob19)), .val (.int i20), .val (.int i21), .val (.int i22), .val (.int i23), .val (.int i24), .val (.int i25), .val (.int i26), .val (.int t0), .val (.int v56), .val (.int v57), .val (.int v58), .val (.int v59), .val (.int v60), .val (.int v61), .val (.int v62), .unset] [(.int i15), (.int (v57 + (i14 * i9)))])) _
    refine XS.iadd X0.here hx rfl (hb hby at_462) rfl ?_
    show Steps p.tables e below (T0.setTop (mkF m 463 #[.val (.int i0), .val (.int i1), .val (.int i2), .val (.int i3), .val (.int i4), .val (.int i5), .val (.int i6), .val (.int i7), .val (.int i8), .val (.int i9), .val (.int i10), .val (.int i11), .val (.int i12), .val (.int i13), .val (.int i14), .val (.int i15), .val (.ref (n0 + ob16)), .val (.ref (n0 + ob17)), .val (.ref (n0 + ob18)), .val (.ref (n0 + ob19)), .val (.int i20), .val (.int i21), .val (.int i22), .val (.int i23), .val (.int i24), .val (.int i25), .val (.int i26), .val (.int t0), .val (.int v56), .val (.int v57), .val (.int v58), .val (.int v59), .val (.int v60), .val (.int v61), .val (.int v62), .unset] [(.int ((v57 + (i14 * i9)) + i15))])) _
    refine own_to (congrArg (fun z => T0.setTop (mkF m 463 #[.val (.int i0), .val (.int i1), .val (.int i2), .val (.int i3), .val (.int i4), .val (.int i5), .val (.int i6), .val (.int i7), .val (.int i8), .val (.int i9), .val (.int i10), .val (.int i11), .val (.int i12), .val (.int i13), .val (.int i14), .val (.int i15), .val (.ref (n0 + ob16)), .val (.ref (n0 + ob17)), .val (.ref (n0 + ob18)), .val (.ref (n0 + ob19)), .val (.int i20), .val (.int i21), .val (.int i22), .val (.int i23), .val (.int i24), .val (.int i25), .val (.int i26), .val (.int t0), .val (.int v56), .val (.int v57), .val (.int v58), .val (.int v59), .val (.int v60), .val (.int v61), .val (.int v62), .unset] [(.int z)])) hv63) ?_
    show Steps p.tables e below (T0.setTop (mkF m 463 #[.val (.int i0), .val (.int i1), .val (.int i2), .val (.int i3), .val (.int i4), .val (.int i5), .val (.int i6), .val (.int i7), .val (.int i8), .val (.int i9), .val (.int i10), .val (.int i11), .val (.int i12), .val (.int i13), .val (.int i14), .val (.int i15), .val (.ref (n0 + ob16)), .val (.ref (n0 + ob17)), .val (.ref (n0 + ob18)), .val (.ref (n0 + ob19)), .val (.int i20), .val (.int i21), .val (.int i22), .val (.int i23), .val (.int i24), .val (.int i25), .val (.int i26), .val (.int t0), .val (.int v56), .val (.int v57), .val (.int v58), .val (.int v59), .val (.int v60), .val (.int v61), .val (.int v62), .unset] [(.int v63)])) _
    refine XS.istore X0.here hx rfl (hb hby at_463) rfl (l' := #[.val (.int i0), .val (.int i1), .val (.int i2), .val (.int i3), .val (.int i4), .val (.int i5), .val (.int i6), .val (.int i7), .val (.int i8), .val (.int i9), .val (.int i10), .val (.int i11), .val (.int i12), .val (.int i13), .val (.int i14), .val (.int i15), .val (.ref (n0 + ob16)), .val (.ref (n0 + ob17)), .val (.ref (n0 + ob18)), .val (.ref (n0 + ob19)), .val (.int i20), .val (.int i21), .val (.int i22), .val (.int i23), .val (.int i24), .val (.int i25), .val (.int i26), .val (.int t0), .val (.int v56), .val (.int v57), .val (.int v58), .val (.int v59), .val (.int v60), .val (.int v61), .val (.int v62), .val (.int v63)]) rfl ?_
    show Steps p.tables e below (T0.setTop (mkF m 465 #[.val (.int i0), .val (.int i1), .val (.int i2), .val (.int i3), .val (.int i4), .val (.int i5), .val (.int i6), .val (.int i7), .val (.int i8), .val (.int i9), .val (.int i10), .val (.int i11), .val (.int i12), .val (.int i13), .val (.int i14), .val (.int i15), .val (.ref (n0 + ob16)), .val (.ref (n0 + ob17)), .val (.ref (n0 + ob18)), .val (.ref (n0 + ob19)), .val (.int i20), .val (.int i21), .val (.int i22), .val (.int i23), .val (.int i24), .val (.int i25), .val (.int i26), .val (.int t0), .val (.int v56), .val (.int v57), .val (.int v58), .val (.int v59), .val (.int v60), .val (.int v61), .val (.int v62), .val (.int v63)] [])) _
    refine XS.iload X0.here hx rfl (hb hby at_465) rfl ?_
    show Steps p.tables e below (T0.setTop (mkF m 467 #[.val (.int i0), .val (.int i1), .val (.int i2), .val (.int i3), .val (.int i4), .val (.int i5), .val (.int i6), .val (.int i7), .val (.int i8), .val (.int i9), .val (.int i10), .val (.int i11), .val (.int i12), .val (.int i13), .val (.int i14), .val (.int i15), .val (.ref (n0 + ob16)), .val (.ref (n0 + ob17)), .val (.ref (n0 + ob18)), .val (.ref (n0 + ob19)), .val (.int i20), .val (.int i21), .val (.int i22), .val (.int i23), .val (.int i24), .val (.int i25), .val (.int i26), .val (.int t0), .val (.int v56), .val (.int v57), .val (.int v58), .val (.int v59), .val (.int v60), .val (.int v61), .val (.int v62), .val (.int v63)] [(.int i10)])) _
    refine XS.iconst X0.here hx rfl (hb hby at_467) ?_
    exact k
  by_cases hc64 : i10 = (2 : Int32)
  · rw [if_pos hc64] at hf
    obtain ⟨x65, hx65, hf⟩ := own_bind hf
    refine Gl.on (B := T0.setTop (mkF m 477 #[.val (.int i0), .val (.int i1), .val (.int i2), .val (.int i3), .val (.int i4), .val (.int i5), .val (.int i6), .val (.int i7), .val (.int i8), .val (.int i9), .val (.int i10), .val (.int i11), .val (.int i12), .val (.int i13), .val (.int i14), .val (.int i15), .val (.ref (n0 + ob16)), .val (.ref (n0 + ob17)), .val (.ref (n0 + ob18)), .val (.ref (n0 + ob19)), .val (.int i20), .val (.int i21), .val (.int i22), .val (.int i23), .val (.int i24), .val (.int i25), .val (.int i26), .val (.int t0), .val (.int v56), .val (.int v57), .val (.int v58), .val (.int v59), .val (.int v60), .val (.int v61), .val (.int v62), .val (.int v63)] [(.int v58), (.int x65)])) (fun t k => ?_) ?_
    · show Steps p.tables e below (T0.setTop (mkF m 468 #[.val (.int i0), .val (.int i1), .val (.int i2), .val (.int i3), .val (.int i4), .val (.int i5), .val (.int i6), .val (.int i7), .val (.int i8), .val (.int i9), .val (.int i10), .val (.int i11), .val (.int i12), .val (.int i13), .val (.int i14), .val (.int i15), .val (.ref (n0 + ob16)), .val (.ref (n0 + ob17)), .val (.ref (n0 + ob18)), .val (.ref (n0 + ob19)), .val (.int i20), .val (.int i21), .val (.int i22), .val (.int i23), .val (.int i24), .val (.int i25), .val (.int i26), .val (.int t0), .val (.int v56), .val (.int v57), .val (.int v58), .val (.int v59), .val (.int v60), .val (.int v61), .val (.int v62), .val (.int v63)] [(.int (2 : Int32)), (.int i10)])) _
      refine XS.icmpNo X0.here hx rfl (hb hby at_468) rfl (teq hc64).2 ?_
      show Steps p.tables e below (T0.setTop (mkF m 471 #[.val (.int i0), .val (.int i1), .val (.int i2), .val (.int i3), .val (.int i4), .val (.int i5), .val (.int i6), .val (.int i7), .val (.int i8), .val (.int i9), .val (.int i10), .val (.int i11), .val (.int i12), .val (.int i13), .val (.int i14), .val (.int i15), .val (.ref (n0 + ob16)), .val (.ref (n0 + ob17)), .val (.ref (n0 + ob18)), .val (.ref (n0 + ob19)), .val (.int i20), .val (.int i21), .val (.int i22), .val (.int i23), .val (.int i24), .val (.int i25), .val (.int i26), .val (.int t0), .val (.int v56), .val (.int v57), .val (.int v58), .val (.int v59), .val (.int v60), .val (.int v61), .val (.int v62), .val (.int v63)] [])) _
      refine XS.aload X0.here hx rfl (hb hby at_471) rfl rfl ?_
      show Steps p.tables e below (T0.setTop (mkF m 473 #[.val (.int i0), .val (.int i1), .val (.int i2), .val (.int i3), .val (.int i4), .val (.int i5), .val (.int i6), .val (.int i7), .val (.int i8), .val (.int i9), .val (.int i10), .val (.int i11), .val (.int i12), .val (.int i13), .val (.int i14), .val (.int i15), .val (.ref (n0 + ob16)), .val (.ref (n0 + ob17)), .val (.ref (n0 + ob18)), .val (.ref (n0 + ob19)), .val (.int i20), .val (.int i21), .val (.int i22), .val (.int i23), .val (.int i24), .val (.int i25), .val (.int i26), .val (.int t0), .val (.int v56), .val (.int v57), .val (.int v58), .val (.int v59), .val (.int v60), .val (.int v61), .val (.int v62), .val (.int v63)] [(.ref (n0 + ob19))])) _
      refine XS.iconst X0.here hx rfl (hb hby at_473) ?_
      show Steps p.tables e below (T0.setTop (mkF m 474 #[.val (.int i0), .val (.int i1), .val (.int i2), .val (.int i3), .val (.int i4), .val (.int i5), .val (.int i6), .val (.int i7), .val (.int i8), .val (.int i9), .val (.int i10), .val (.int i11), .val (.int i12), .val (.int i13), .val (.int i14), .val (.int i15), .val (.ref (n0 + ob16)), .val (.ref (n0 + ob17)), .val (.ref (n0 + ob18)), .val (.ref (n0 + ob19)), .val (.int i20), .val (.int i21), .val (.int i22), .val (.int i23), .val (.int i24), .val (.int i25), .val (.int i26), .val (.int t0), .val (.int v56), .val (.int v57), .val (.int v58), .val (.int v59), .val (.int v60), .val (.int v61), .val (.int v62), .val (.int v63)] [(.int (0 : Int32)), (.ref (n0 + ob19))])) _
      refine ldW X0 hx hZ e0 O0 hx65 rfl (g := (mkF m 474 #[.val (.int i0), .val (.int i1), .val (.int i2), .val (.int i3), .val (.int i4), .val (.int i5), .val (.int i6), .val (.int i7), .val (.int i8), .val (.int i9), .val (.int i10), .val (.int i11), .val (.int i12), .val (.int i13), .val (.int i14), .val (.int i15), .val (.ref (n0 + ob16)), .val (.ref (n0 + ob17)), .val (.ref (n0 + ob18)), .val (.ref (n0 + ob19)), .val (.int i20), .val (.int i21), .val (.int i22), .val (.int i23), .val (.int i24), .val (.int i25), .val (.int i26), .val (.int t0), .val (.int v56), .val (.int v57), .val (.int v58), .val (.int v59), .val (.int v60), .val (.int v61), .val (.int v62), .val (.int v63)] [(.int (0 : Int32)), (.ref (n0 + ob19))])) rfl rfl (hb hby at_474) _ ?_
      show Steps p.tables e below (T0.setTop (mkF m 475 #[.val (.int i0), .val (.int i1), .val (.int i2), .val (.int i3), .val (.int i4), .val (.int i5), .val (.int i6), .val (.int i7), .val (.int i8), .val (.int i9), .val (.int i10), .val (.int i11), .val (.int i12), .val (.int i13), .val (.int i14), .val (.int i15), .val (.ref (n0 + ob16)), .val (.ref (n0 + ob17)), .val (.ref (n0 + ob18)), .val (.ref (n0 + ob19)), .val (.int i20), .val (.int i21), .val (.int i22), .val (.int i23), .val (.int i24), .val (.int i25), .val (.int i26), .val (.int t0), .val (.int v56), .val (.int v57), .val (.int v58), .val (.int v59), .val (.int v60), .val (.int v61), .val (.int v62), .val (.int v63)] [(.int x65)])) _
      refine XS.iload X0.here hx rfl (hb hby at_475) rfl ?_
      exact k
    by_cases hc66 : x65 = v58
    · rw [if_pos hc66] at hf
      obtain ⟨x67, hx67, hf⟩ := own_bind hf
      refine Gl.on (B := T0.setTop (mkF m 485 #[.val (.int i0), .val (.int i1), .val (.int i2), .val (.int i3), .val (.int i4), .val (.int i5), .val (.int i6), .val (.int i7), .val (.int i8), .val (.int i9), .val (.int i10), .val (.int i11), .val (.int i12), .val (.int i13), .val (.int i14), .val (.int i15), .val (.ref (n0 + ob16)), .val (.ref (n0 + ob17)), .val (.ref (n0 + ob18)), .val (.ref (n0 + ob19)), .val (.int i20), .val (.int i21), .val (.int i22), .val (.int i23), .val (.int i24), .val (.int i25), .val (.int i26), .val (.int t0), .val (.int v56), .val (.int v57), .val (.int v58), .val (.int v59), .val (.int v60), .val (.int v61), .val (.int v62), .val (.int v63)] [(.int (-1 : Int32)), (.int x67)])) (fun t k => ?_) ?_
      · show Steps p.tables e below (T0.setTop (mkF m 477 #[.val (.int i0), .val (.int i1), .val (.int i2), .val (.int i3), .val (.int i4), .val (.int i5), .val (.int i6), .val (.int i7), .val (.int i8), .val (.int i9), .val (.int i10), .val (.int i11), .val (.int i12), .val (.int i13), .val (.int i14), .val (.int i15), .val (.ref (n0 + ob16)), .val (.ref (n0 + ob17)), .val (.ref (n0 + ob18)), .val (.ref (n0 + ob19)), .val (.int i20), .val (.int i21), .val (.int i22), .val (.int i23), .val (.int i24), .val (.int i25), .val (.int i26), .val (.int t0), .val (.int v56), .val (.int v57), .val (.int v58), .val (.int v59), .val (.int v60), .val (.int v61), .val (.int v62), .val (.int v63)] [(.int v58), (.int x65)])) _
        refine XS.icmpNo X0.here hx rfl (hb hby at_477) rfl (teq hc66).2 ?_
        show Steps p.tables e below (T0.setTop (mkF m 480 #[.val (.int i0), .val (.int i1), .val (.int i2), .val (.int i3), .val (.int i4), .val (.int i5), .val (.int i6), .val (.int i7), .val (.int i8), .val (.int i9), .val (.int i10), .val (.int i11), .val (.int i12), .val (.int i13), .val (.int i14), .val (.int i15), .val (.ref (n0 + ob16)), .val (.ref (n0 + ob17)), .val (.ref (n0 + ob18)), .val (.ref (n0 + ob19)), .val (.int i20), .val (.int i21), .val (.int i22), .val (.int i23), .val (.int i24), .val (.int i25), .val (.int i26), .val (.int t0), .val (.int v56), .val (.int v57), .val (.int v58), .val (.int v59), .val (.int v60), .val (.int v61), .val (.int v62), .val (.int v63)] [])) _
        refine XS.aload X0.here hx rfl (hb hby at_480) rfl rfl ?_
        show Steps p.tables e below (T0.setTop (mkF m 482 #[.val (.int i0), .val (.int i1), .val (.int i2), .val (.int i3), .val (.int i4), .val (.int i5), .val (.int i6), .val (.int i7), .val (.int i8), .val (.int i9), .val (.int i10), .val (.int i11), .val (.int i12), .val (.int i13), .val (.int i14), .val (.int i15), .val (.ref (n0 + ob16)), .val (.ref (n0 + ob17)), .val (.ref (n0 + ob18)), .val (.ref (n0 + ob19)), .val (.int i20), .val (.int i21), .val (.int i22), .val (.int i23), .val (.int i24), .val (.int i25), .val (.int i26), .val (.int t0), .val (.int v56), .val (.int v57), .val (.int v58), .val (.int v59), .val (.int v60), .val (.int v61), .val (.int v62), .val (.int v63)] [(.ref (n0 + ob19))])) _
        refine XS.iconst X0.here hx rfl (hb hby at_482) ?_
        show Steps p.tables e below (T0.setTop (mkF m 483 #[.val (.int i0), .val (.int i1), .val (.int i2), .val (.int i3), .val (.int i4), .val (.int i5), .val (.int i6), .val (.int i7), .val (.int i8), .val (.int i9), .val (.int i10), .val (.int i11), .val (.int i12), .val (.int i13), .val (.int i14), .val (.int i15), .val (.ref (n0 + ob16)), .val (.ref (n0 + ob17)), .val (.ref (n0 + ob18)), .val (.ref (n0 + ob19)), .val (.int i20), .val (.int i21), .val (.int i22), .val (.int i23), .val (.int i24), .val (.int i25), .val (.int i26), .val (.int t0), .val (.int v56), .val (.int v57), .val (.int v58), .val (.int v59), .val (.int v60), .val (.int v61), .val (.int v62), .val (.int v63)] [(.int (1 : Int32)), (.ref (n0 + ob19))])) _
        refine ldW X0 hx hZ e0 O0 hx67 rfl (g := (mkF m 483 #[.val (.int i0), .val (.int i1), .val (.int i2), .val (.int i3), .val (.int i4), .val (.int i5), .val (.int i6), .val (.int i7), .val (.int i8), .val (.int i9), .val (.int i10), .val (.int i11), .val (.int i12), .val (.int i13), .val (.int i14), .val (.int i15), .val (.ref (n0 + ob16)), .val (.ref (n0 + ob17)), .val (.ref (n0 + ob18)), .val (.ref (n0 + ob19)), .val (.int i20), .val (.int i21), .val (.int i22), .val (.int i23), .val (.int i24), .val (.int i25), .val (.int i26), .val (.int t0), .val (.int v56), .val (.int v57), .val (.int v58), .val (.int v59), .val (.int v60), .val (.int v61), .val (.int v62), .val (.int v63)] [(.int (1 : Int32)), (.ref (n0 + ob19))])) rfl rfl (hb hby at_483) _ ?_
        show Steps p.tables e below (T0.setTop (mkF m 484 #[.val (.int i0), .val (.int i1), .val (.int i2), .val (.int i3), .val (.int i4), .val (.int i5), .val (.int i6), .val (.int i7), .val (.int i8), .val (.int i9), .val (.int i10), .val (.int i11), .val (.int i12), .val (.int i13), .val (.int i14), .val (.int i15), .val (.ref (n0 + ob16)), .val (.ref (n0 + ob17)), .val (.ref (n0 + ob18)), .val (.ref (n0 + ob19)), .val (.int i20), .val (.int i21), .val (.int i22), .val (.int i23), .val (.int i24), .val (.int i25), .val (.int i26), .val (.int t0), .val (.int v56), .val (.int v57), .val (.int v58), .val (.int v59), .val (.int v60), .val (.int v61), .val (.int v62), .val (.int v63)] [(.int x67)])) _
        refine XS.iconst X0.here hx rfl (hb hby at_484) ?_
        exact k
      by_cases hc68 : x67 = (-1 : Int32)
      · rw [if_pos hc68] at hf
        obtain ⟨x69, hx69, hf⟩ := own_bind hf
        refine Gl.on (B := T0.setTop (mkF m 493 #[.val (.int i0), .val (.int i1), .val (.int i2), .val (.int i3), .val (.int i4), .val (.int i5), .val (.int i6), .val (.int i7), .val (.int i8), .val (.int i9), .val (.int i10), .val (.int i11), .val (.int i12), .val (.int i13), .val (.int i14), .val (.int i15), .val (.ref (n0 + ob16)), .val (.ref (n0 + ob17)), .val (.ref (n0 + ob18)), .val (.ref (n0 + ob19)), .val (.int i20), .val (.int i21), .val (.int i22), .val (.int i23), .val (.int i24), .val (.int i25), .val (.int i26), .val (.int t0), .val (.int v56), .val (.int v57), .val (.int v58), .val (.int v59), .val (.int v60), .val (.int v61), .val (.int v62), .val (.int v63)] [(.int (-1 : Int32)), (.int x69)])) (fun t k => ?_) ?_
        · show Steps p.tables e below (T0.setTop (mkF m 485 #[.val (.int i0), .val (.int i1), .val (.int i2), .val (.int i3), .val (.int i4), .val (.int i5), .val (.int i6), .val (.int i7), .val (.int i8), .val (.int i9), .val (.int i10), .val (.int i11), .val (.int i12), .val (.int i13), .val (.int i14), .val (.int i15), .val (.ref (n0 + ob16)), .val (.ref (n0 + ob17)), .val (.ref (n0 + ob18)), .val (.ref (n0 + ob19)), .val (.int i20), .val (.int i21), .val (.int i22), .val (.int i23), .val (.int i24), .val (.int i25), .val (.int i26), .val (.int t0), .val (.int v56), .val (.int v57), .val (.int v58), .val (.int v59), .val (.int v60), .val (.int v61), .val (.int v62), .val (.int v63)] [(.int (-1 : Int32)), (.int x67)])) _
          refine XS.icmpNo X0.here hx rfl (hb hby at_485) rfl (teq hc68).2 ?_
          show Steps p.tables e below (T0.setTop (mkF m 488 #[.val (.int i0), .val (.int i1), .val (.int i2), .val (.int i3), .val (.int i4), .val (.int i5), .val (.int i6), .val (.int i7), .val (.int i8), .val (.int i9), .val (.int i10), .val (.int i11), .val (.int i12), .val (.int i13), .val (.int i14), .val (.int i15), .val (.ref (n0 + ob16)), .val (.ref (n0 + ob17)), .val (.ref (n0 + ob18)), .val (.ref (n0 + ob19)), .val (.int i20), .val (.int i21), .val (.int i22), .val (.int i23), .val (.int i24), .val (.int i25), .val (.int i26), .val (.int t0), .val (.int v56), .val (.int v57), .val (.int v58), .val (.int v59), .val (.int v60), .val (.int v61), .val (.int v62), .val (.int v63)] [])) _
          refine XS.aload X0.here hx rfl (hb hby at_488) rfl rfl ?_
          show Steps p.tables e below (T0.setTop (mkF m 490 #[.val (.int i0), .val (.int i1), .val (.int i2), .val (.int i3), .val (.int i4), .val (.int i5), .val (.int i6), .val (.int i7), .val (.int i8), .val (.int i9), .val (.int i10), .val (.int i11), .val (.int i12), .val (.int i13), .val (.int i14), .val (.int i15), .val (.ref (n0 + ob16)), .val (.ref (n0 + ob17)), .val (.ref (n0 + ob18)), .val (.ref (n0 + ob19)), .val (.int i20), .val (.int i21), .val (.int i22), .val (.int i23), .val (.int i24), .val (.int i25), .val (.int i26), .val (.int t0), .val (.int v56), .val (.int v57), .val (.int v58), .val (.int v59), .val (.int v60), .val (.int v61), .val (.int v62), .val (.int v63)] [(.ref (n0 + ob19))])) _
          refine XS.iconst X0.here hx rfl (hb hby at_490) ?_
          show Steps p.tables e below (T0.setTop (mkF m 491 #[.val (.int i0), .val (.int i1), .val (.int i2), .val (.int i3), .val (.int i4), .val (.int i5), .val (.int i6), .val (.int i7), .val (.int i8), .val (.int i9), .val (.int i10), .val (.int i11), .val (.int i12), .val (.int i13), .val (.int i14), .val (.int i15), .val (.ref (n0 + ob16)), .val (.ref (n0 + ob17)), .val (.ref (n0 + ob18)), .val (.ref (n0 + ob19)), .val (.int i20), .val (.int i21), .val (.int i22), .val (.int i23), .val (.int i24), .val (.int i25), .val (.int i26), .val (.int t0), .val (.int v56), .val (.int v57), .val (.int v58), .val (.int v59), .val (.int v60), .val (.int v61), .val (.int v62), .val (.int v63)] [(.int (2 : Int32)), (.ref (n0 + ob19))])) _
          refine ldW X0 hx hZ e0 O0 hx69 rfl (g := (mkF m 491 #[.val (.int i0), .val (.int i1), .val (.int i2), .val (.int i3), .val (.int i4), .val (.int i5), .val (.int i6), .val (.int i7), .val (.int i8), .val (.int i9), .val (.int i10), .val (.int i11), .val (.int i12), .val (.int i13), .val (.int i14), .val (.int i15), .val (.ref (n0 + ob16)), .val (.ref (n0 + ob17)), .val (.ref (n0 + ob18)), .val (.ref (n0 + ob19)), .val (.int i20), .val (.int i21), .val (.int i22), .val (.int i23), .val (.int i24), .val (.int i25), .val (.int i26), .val (.int t0), .val (.int v56), .val (.int v57), .val (.int v58), .val (.int v59), .val (.int v60), .val (.int v61), .val (.int v62), .val (.int v63)] [(.int (2 : Int32)), (.ref (n0 + ob19))])) rfl rfl (hb hby at_491) _ ?_
          show Steps p.tables e below (T0.setTop (mkF m 492 #[.val (.int i0), .val (.int i1), .val (.int i2), .val (.int i3), .val (.int i4), .val (.int i5), .val (.int i6), .val (.int i7), .val (.int i8), .val (.int i9), .val (.int i10), .val (.int i11), .val (.int i12), .val (.int i13), .val (.int i14), .val (.int i15), .val (.ref (n0 + ob16)), .val (.ref (n0 + ob17)), .val (.ref (n0 + ob18)), .val (.ref (n0 + ob19)), .val (.int i20), .val (.int i21), .val (.int i22), .val (.int i23), .val (.int i24), .val (.int i25), .val (.int i26), .val (.int t0), .val (.int v56), .val (.int v57), .val (.int v58), .val (.int v59), .val (.int v60), .val (.int v61), .val (.int v62), .val (.int v63)] [(.int x69)])) _
          refine XS.iconst X0.here hx rfl (hb hby at_492) ?_
          exact k
        by_cases hc70 : x69 = (-1 : Int32)
        · rw [if_pos hc70] at hf
          obtain ⟨x71, hx71, hf⟩ := own_bind hf
          refine Gl.on (B := T0.setTop (mkF m 501 #[.val (.int i0), .val (.int i1), .val (.int i2), .val (.int i3), .val (.int i4), .val (.int i5), .val (.int i6), .val (.int i7), .val (.int i8), .val (.int i9), .val (.int i10), .val (.int i11), .val (.int i12), .val (.int i13), .val (.int i14), .val (.int i15), .val (.ref (n0 + ob16)), .val (.ref (n0 + ob17)), .val (.ref (n0 + ob18)), .val (.ref (n0 + ob19)), .val (.int i20), .val (.int i21), .val (.int i22), .val (.int i23), .val (.int i24), .val (.int i25), .val (.int i26), .val (.int t0), .val (.int v56), .val (.int v57), .val (.int v58), .val (.int v59), .val (.int v60), .val (.int v61), .val (.int v62), .val (.int v63)] [(.int (-1 : Int32)), (.int x71)])) (fun t k => ?_) ?_
          · show Steps p.tables e below (T0.setTop (mkF m 493 #[.val (.int i0), .val (.int i1), .val (.int i2), .val (.int i3), .val (.int i4), .val (.int i5), .val (.int i6), .val (.int i7), .val (.int i8), .val (.int i9), .val (.int i10), .val (.int i11), .val (.int i12), .val (.int i13), .val (.int i14), .val (.int i15), .val (.ref (n0 + ob16)), .val (.ref (n0 + ob17)), .val (.ref (n0 + ob18)), .val (.ref (n0 + ob19)), .val (.int i20), .val (.int i21), .val (.int i22), .val (.int i23), .val (.int i24), .val (.int i25), .val (.int i26), .val (.int t0), .val (.int v56), .val (.int v57), .val (.int v58), .val (.int v59), .val (.int v60), .val (.int v61), .val (.int v62), .val (.int v63)] [(.int (-1 : Int32)), (.int x69)])) _
            refine XS.icmpNo X0.here hx rfl (hb hby at_493) rfl (teq hc70).2 ?_
            show Steps p.tables e below (T0.setTop (mkF m 496 #[.val (.int i0), .val (.int i1), .val (.int i2), .val (.int i3), .val (.int i4), .val (.int i5), .val (.int i6), .val (.int i7), .val (.int i8), .val (.int i9), .val (.int i10), .val (.int i11), .val (.int i12), .val (.int i13), .val (.int i14), .val (.int i15), .val (.ref (n0 + ob16)), .val (.ref (n0 + ob17)), .val (.ref (n0 + ob18)), .val (.ref (n0 + ob19)), .val (.int i20), .val (.int i21), .val (.int i22), .val (.int i23), .val (.int i24), .val (.int i25), .val (.int i26), .val (.int t0), .val (.int v56), .val (.int v57), .val (.int v58), .val (.int v59), .val (.int v60), .val (.int v61), .val (.int v62), .val (.int v63)] [])) _
            refine XS.aload X0.here hx rfl (hb hby at_496) rfl rfl ?_
            show Steps p.tables e below (T0.setTop (mkF m 498 #[.val (.int i0), .val (.int i1), .val (.int i2), .val (.int i3), .val (.int i4), .val (.int i5), .val (.int i6), .val (.int i7), .val (.int i8), .val (.int i9), .val (.int i10), .val (.int i11), .val (.int i12), .val (.int i13), .val (.int i14), .val (.int i15), .val (.ref (n0 + ob16)), .val (.ref (n0 + ob17)), .val (.ref (n0 + ob18)), .val (.ref (n0 + ob19)), .val (.int i20), .val (.int i21), .val (.int i22), .val (.int i23), .val (.int i24), .val (.int i25), .val (.int i26), .val (.int t0), .val (.int v56), .val (.int v57), .val (.int v58), .val (.int v59), .val (.int v60), .val (.int v61), .val (.int v62), .val (.int v63)] [(.ref (n0 + ob19))])) _
            refine XS.iconst X0.here hx rfl (hb hby at_498) ?_
            show Steps p.tables e below (T0.setTop (mkF m 499 #[.val (.int i0), .val (.int i1), .val (.int i2), .val (.int i3), .val (.int i4), .val (.int i5), .val (.int i6), .val (.int i7), .val (.int i8), .val (.int i9), .val (.int i10), .val (.int i11), .val (.int i12), .val (.int i13), .val (.int i14), .val (.int i15), .val (.ref (n0 + ob16)), .val (.ref (n0 + ob17)), .val (.ref (n0 + ob18)), .val (.ref (n0 + ob19)), .val (.int i20), .val (.int i21), .val (.int i22), .val (.int i23), .val (.int i24), .val (.int i25), .val (.int i26), .val (.int t0), .val (.int v56), .val (.int v57), .val (.int v58), .val (.int v59), .val (.int v60), .val (.int v61), .val (.int v62), .val (.int v63)] [(.int (3 : Int32)), (.ref (n0 + ob19))])) _
            refine ldW X0 hx hZ e0 O0 hx71 rfl (g := (mkF m 499 #[.val (.int i0), .val (.int i1), .val (.int i2), .val (.int i3), .val (.int i4), .val (.int i5), .val (.int i6), .val (.int i7), .val (.int i8), .val (.int i9), .val (.int i10), .val (.int i11), .val (.int i12), .val (.int i13), .val (.int i14), .val (.int i15), .val (.ref (n0 + ob16)), .val (.ref (n0 + ob17)), .val (.ref (n0 + ob18)), .val (.ref (n0 + ob19)), .val (.int i20), .val (.int i21), .val (.int i22), .val (.int i23), .val (.int i24), .val (.int i25), .val (.int i26), .val (.int t0), .val (.int v56), .val (.int v57), .val (.int v58), .val (.int v59), .val (.int v60), .val (.int v61), .val (.int v62), .val (.int v63)] [(.int (3 : Int32)), (.ref (n0 + ob19))])) rfl rfl (hb hby at_499) _ ?_
            show Steps p.tables e below (T0.setTop (mkF m 500 #[.val (.int i0), .val (.int i1), .val (.int i2), .val (.int i3), .val (.int i4), .val (.int i5), .val (.int i6), .val (.int i7), .val (.int i8), .val (.int i9), .val (.int i10), .val (.int i11), .val (.int i12), .val (.int i13), .val (.int i14), .val (.int i15), .val (.ref (n0 + ob16)), .val (.ref (n0 + ob17)), .val (.ref (n0 + ob18)), .val (.ref (n0 + ob19)), .val (.int i20), .val (.int i21), .val (.int i22), .val (.int i23), .val (.int i24), .val (.int i25), .val (.int i26), .val (.int t0), .val (.int v56), .val (.int v57), .val (.int v58), .val (.int v59), .val (.int v60), .val (.int v61), .val (.int v62), .val (.int v63)] [(.int x71)])) _
            refine XS.iconst X0.here hx rfl (hb hby at_500) ?_
            exact k
          by_cases hc72 : x71 = (-1 : Int32)
          · rw [if_pos hc72] at hf
            obtain ⟨x73, hx73, hf⟩ := own_bind hf
            refine Gl.on (B := T0.setTop (mkF m 509 #[.val (.int i0), .val (.int i1), .val (.int i2), .val (.int i3), .val (.int i4), .val (.int i5), .val (.int i6), .val (.int i7), .val (.int i8), .val (.int i9), .val (.int i10), .val (.int i11), .val (.int i12), .val (.int i13), .val (.int i14), .val (.int i15), .val (.ref (n0 + ob16)), .val (.ref (n0 + ob17)), .val (.ref (n0 + ob18)), .val (.ref (n0 + ob19)), .val (.int i20), .val (.int i21), .val (.int i22), .val (.int i23), .val (.int i24), .val (.int i25), .val (.int i26), .val (.int t0), .val (.int v56), .val (.int v57), .val (.int v58), .val (.int v59), .val (.int v60), .val (.int v61), .val (.int v62), .val (.int v63)] [(.int (-1 : Int32)), (.int x73)])) (fun t k => ?_) ?_
            · show Steps p.tables e below (T0.setTop (mkF m 501 #[.val (.int i0), .val (.int i1), .val (.int i2), .val (.int i3), .val (.int i4), .val (.int i5), .val (.int i6), .val (.int i7), .val (.int i8), .val (.int i9), .val (.int i10), .val (.int i11), .val (.int i12), .val (.int i13), .val (.int i14), .val (.int i15), .val (.ref (n0 + ob16)), .val (.ref (n0 + ob17)), .val (.ref (n0 + ob18)), .val (.ref (n0 + ob19)), .val (.int i20), .val (.int i21), .val (.int i22), .val (.int i23), .val (.int i24), .val (.int i25), .val (.int i26), .val (.int t0), .val (.int v56), .val (.int v57), .val (.int v58), .val (.int v59), .val (.int v60), .val (.int v61), .val (.int v62), .val (.int v63)] [(.int (-1 : Int32)), (.int x71)])) _
              refine XS.icmpNo X0.here hx rfl (hb hby at_501) rfl (teq hc72).2 ?_
              show Steps p.tables e below (T0.setTop (mkF m 504 #[.val (.int i0), .val (.int i1), .val (.int i2), .val (.int i3), .val (.int i4), .val (.int i5), .val (.int i6), .val (.int i7), .val (.int i8), .val (.int i9), .val (.int i10), .val (.int i11), .val (.int i12), .val (.int i13), .val (.int i14), .val (.int i15), .val (.ref (n0 + ob16)), .val (.ref (n0 + ob17)), .val (.ref (n0 + ob18)), .val (.ref (n0 + ob19)), .val (.int i20), .val (.int i21), .val (.int i22), .val (.int i23), .val (.int i24), .val (.int i25), .val (.int i26), .val (.int t0), .val (.int v56), .val (.int v57), .val (.int v58), .val (.int v59), .val (.int v60), .val (.int v61), .val (.int v62), .val (.int v63)] [])) _
              refine XS.aload X0.here hx rfl (hb hby at_504) rfl rfl ?_
              show Steps p.tables e below (T0.setTop (mkF m 506 #[.val (.int i0), .val (.int i1), .val (.int i2), .val (.int i3), .val (.int i4), .val (.int i5), .val (.int i6), .val (.int i7), .val (.int i8), .val (.int i9), .val (.int i10), .val (.int i11), .val (.int i12), .val (.int i13), .val (.int i14), .val (.int i15), .val (.ref (n0 + ob16)), .val (.ref (n0 + ob17)), .val (.ref (n0 + ob18)), .val (.ref (n0 + ob19)), .val (.int i20), .val (.int i21), .val (.int i22), .val (.int i23), .val (.int i24), .val (.int i25), .val (.int i26), .val (.int t0), .val (.int v56), .val (.int v57), .val (.int v58), .val (.int v59), .val (.int v60), .val (.int v61), .val (.int v62), .val (.int v63)] [(.ref (n0 + ob19))])) _
              refine XS.iconst X0.here hx rfl (hb hby at_506) ?_
              show Steps p.tables e below (T0.setTop (mkF m 507 #[.val (.int i0), .val (.int i1), .val (.int i2), .val (.int i3), .val (.int i4), .val (.int i5), .val (.int i6), .val (.int i7), .val (.int i8), .val (.int i9), .val (.int i10), .val (.int i11), .val (.int i12), .val (.int i13), .val (.int i14), .val (.int i15), .val (.ref (n0 + ob16)), .val (.ref (n0 + ob17)), .val (.ref (n0 + ob18)), .val (.ref (n0 + ob19)), .val (.int i20), .val (.int i21), .val (.int i22), .val (.int i23), .val (.int i24), .val (.int i25), .val (.int i26), .val (.int t0), .val (.int v56), .val (.int v57), .val (.int v58), .val (.int v59), .val (.int v60), .val (.int v61), .val (.int v62), .val (.int v63)] [(.int (4 : Int32)), (.ref (n0 + ob19))])) _
              refine ldW X0 hx hZ e0 O0 hx73 rfl (g := (mkF m 507 #[.val (.int i0), .val (.int i1), .val (.int i2), .val (.int i3), .val (.int i4), .val (.int i5), .val (.int i6), .val (.int i7), .val (.int i8), .val (.int i9), .val (.int i10), .val (.int i11), .val (.int i12), .val (.int i13), .val (.int i14), .val (.int i15), .val (.ref (n0 + ob16)), .val (.ref (n0 + ob17)), .val (.ref (n0 + ob18)), .val (.ref (n0 + ob19)), .val (.int i20), .val (.int i21), .val (.int i22), .val (.int i23), .val (.int i24), .val (.int i25), .val (.int i26), .val (.int t0), .val (.int v56), .val (.int v57), .val (.int v58), .val (.int v59), .val (.int v60), .val (.int v61), .val (.int v62), .val (.int v63)] [(.int (4 : Int32)), (.ref (n0 + ob19))])) rfl rfl (hb hby at_507) _ ?_
              show Steps p.tables e below (T0.setTop (mkF m 508 #[.val (.int i0), .val (.int i1), .val (.int i2), .val (.int i3), .val (.int i4), .val (.int i5), .val (.int i6), .val (.int i7), .val (.int i8), .val (.int i9), .val (.int i10), .val (.int i11), .val (.int i12), .val (.int i13), .val (.int i14), .val (.int i15), .val (.ref (n0 + ob16)), .val (.ref (n0 + ob17)), .val (.ref (n0 + ob18)), .val (.ref (n0 + ob19)), .val (.int i20), .val (.int i21), .val (.int i22), .val (.int i23), .val (.int i24), .val (.int i25), .val (.int i26), .val (.int t0), .val (.int v56), .val (.int v57), .val (.int v58), .val (.int v59), .val (.int v60), .val (.int v61), .val (.int v62), .val (.int v63)] [(.int x73)])) _
              refine XS.iconst X0.here hx rfl (hb hby at_508) ?_
              exact k
            by_cases hc74 : x73 = (-1 : Int32)
            · rw [if_pos hc74] at hf
              obtain ⟨x75, hx75, hf⟩ := own_bind hf
              refine Gl.on (B := T0.setTop (mkF m 517 #[.val (.int i0), .val (.int i1), .val (.int i2), .val (.int i3), .val (.int i4), .val (.int i5), .val (.int i6), .val (.int i7), .val (.int i8), .val (.int i9), .val (.int i10), .val (.int i11), .val (.int i12), .val (.int i13), .val (.int i14), .val (.int i15), .val (.ref (n0 + ob16)), .val (.ref (n0 + ob17)), .val (.ref (n0 + ob18)), .val (.ref (n0 + ob19)), .val (.int i20), .val (.int i21), .val (.int i22), .val (.int i23), .val (.int i24), .val (.int i25), .val (.int i26), .val (.int t0), .val (.int v56), .val (.int v57), .val (.int v58), .val (.int v59), .val (.int v60), .val (.int v61), .val (.int v62), .val (.int v63)] [(.int (-1 : Int32)), (.int x75)])) (fun t k => ?_) ?_
              · show Steps p.tables e below (T0.setTop (mkF m 509 #[.val (.int i0), .val (.int i1), .val (.int i2), .val (.int i3), .val (.int i4), .val (.int i5), .val (.int i6), .val (.int i7), .val (.int i8), .val (.int i9), .val (.int i10), .val (.int i11), .val (.int i12), .val (.int i13), .val (.int i14), .val (.int i15), .val (.ref (n0 + ob16)), .val (.ref (n0 + ob17)), .val (.ref (n0 + ob18)), .val (.ref (n0 + ob19)), .val (.int i20), .val (.int i21), .val (.int i22), .val (.int i23), .val (.int i24), .val (.int i25), .val (.int i26), .val (.int t0), .val (.int v56), .val (.int v57), .val (.int v58), .val (.int v59), .val (.int v60), .val (.int v61), .val (.int v62), .val (.int v63)] [(.int (-1 : Int32)), (.int x73)])) _
                refine XS.icmpNo X0.here hx rfl (hb hby at_509) rfl (teq hc74).2 ?_
                show Steps p.tables e below (T0.setTop (mkF m 512 #[.val (.int i0), .val (.int i1), .val (.int i2), .val (.int i3), .val (.int i4), .val (.int i5), .val (.int i6), .val (.int i7), .val (.int i8), .val (.int i9), .val (.int i10), .val (.int i11), .val (.int i12), .val (.int i13), .val (.int i14), .val (.int i15), .val (.ref (n0 + ob16)), .val (.ref (n0 + ob17)), .val (.ref (n0 + ob18)), .val (.ref (n0 + ob19)), .val (.int i20), .val (.int i21), .val (.int i22), .val (.int i23), .val (.int i24), .val (.int i25), .val (.int i26), .val (.int t0), .val (.int v56), .val (.int v57), .val (.int v58), .val (.int v59), .val (.int v60), .val (.int v61), .val (.int v62), .val (.int v63)] [])) _
                refine XS.aload X0.here hx rfl (hb hby at_512) rfl rfl ?_
                show Steps p.tables e below (T0.setTop (mkF m 514 #[.val (.int i0), .val (.int i1), .val (.int i2), .val (.int i3), .val (.int i4), .val (.int i5), .val (.int i6), .val (.int i7), .val (.int i8), .val (.int i9), .val (.int i10), .val (.int i11), .val (.int i12), .val (.int i13), .val (.int i14), .val (.int i15), .val (.ref (n0 + ob16)), .val (.ref (n0 + ob17)), .val (.ref (n0 + ob18)), .val (.ref (n0 + ob19)), .val (.int i20), .val (.int i21), .val (.int i22), .val (.int i23), .val (.int i24), .val (.int i25), .val (.int i26), .val (.int t0), .val (.int v56), .val (.int v57), .val (.int v58), .val (.int v59), .val (.int v60), .val (.int v61), .val (.int v62), .val (.int v63)] [(.ref (n0 + ob19))])) _
                refine XS.iconst X0.here hx rfl (hb hby at_514) ?_
                show Steps p.tables e below (T0.setTop (mkF m 515 #[.val (.int i0), .val (.int i1), .val (.int i2), .val (.int i3), .val (.int i4), .val (.int i5), .val (.int i6), .val (.int i7), .val (.int i8), .val (.int i9), .val (.int i10), .val (.int i11), .val (.int i12), .val (.int i13), .val (.int i14), .val (.int i15), .val (.ref (n0 + ob16)), .val (.ref (n0 + ob17)), .val (.ref (n0 + ob18)), .val (.ref (n0 + ob19)), .val (.int i20), .val (.int i21), .val (.int i22), .val (.int i23), .val (.int i24), .val (.int i25), .val (.int i26), .val (.int t0), .val (.int v56), .val (.int v57), .val (.int v58), .val (.int v59), .val (.int v60), .val (.int v61), .val (.int v62), .val (.int v63)] [(.int (5 : Int32)), (.ref (n0 + ob19))])) _
                refine ldW X0 hx hZ e0 O0 hx75 rfl (g := (mkF m 515 #[.val (.int i0), .val (.int i1), .val (.int i2), .val (.int i3), .val (.int i4), .val (.int i5), .val (.int i6), .val (.int i7), .val (.int i8), .val (.int i9), .val (.int i10), .val (.int i11), .val (.int i12), .val (.int i13), .val (.int i14), .val (.int i15), .val (.ref (n0 + ob16)), .val (.ref (n0 + ob17)), .val (.ref (n0 + ob18)), .val (.ref (n0 + ob19)), .val (.int i20), .val (.int i21), .val (.int i22), .val (.int i23), .val (.int i24), .val (.int i25), .val (.int i26), .val (.int t0), .val (.int v56), .val (.int v57), .val (.int v58), .val (.int v59), .val (.int v60), .val (.int v61), .val (.int v62), .val (.int v63)] [(.int (5 : Int32)), (.ref (n0 + ob19))])) rfl rfl (hb hby at_515) _ ?_
                show Steps p.tables e below (T0.setTop (mkF m 516 #[.val (.int i0), .val (.int i1), .val (.int i2), .val (.int i3), .val (.int i4), .val (.int i5), .val (.int i6), .val (.int i7), .val (.int i8), .val (.int i9), .val (.int i10), .val (.int i11), .val (.int i12), .val (.int i13), .val (.int i14), .val (.int i15), .val (.ref (n0 + ob16)), .val (.ref (n0 + ob17)), .val (.ref (n0 + ob18)), .val (.ref (n0 + ob19)), .val (.int i20), .val (.int i21), .val (.int i22), .val (.int i23), .val (.int i24), .val (.int i25), .val (.int i26), .val (.int t0), .val (.int v56), .val (.int v57), .val (.int v58), .val (.int v59), .val (.int v60), .val (.int v61), .val (.int v62), .val (.int v63)] [(.int x75)])) _
                refine XS.iconst X0.here hx rfl (hb hby at_516) ?_
                exact k
              by_cases hc76 : x75 = (-1 : Int32)
              · rw [if_pos hc76] at hf
                obtain ⟨x77, hx77, hf⟩ := own_bind hf
                refine Gl.on (B := T0.setTop (mkF m 526 #[.val (.int i0), .val (.int i1), .val (.int i2), .val (.int i3), .val (.int i4), .val (.int i5), .val (.int i6), .val (.int i7), .val (.int i8), .val (.int i9), .val (.int i10), .val (.int i11), .val (.int i12), .val (.int i13), .val (.int i14), .val (.int i15), .val (.ref (n0 + ob16)), .val (.ref (n0 + ob17)), .val (.ref (n0 + ob18)), .val (.ref (n0 + ob19)), .val (.int i20), .val (.int i21), .val (.int i22), .val (.int i23), .val (.int i24), .val (.int i25), .val (.int i26), .val (.int t0), .val (.int v56), .val (.int v57), .val (.int v58), .val (.int v59), .val (.int v60), .val (.int v61), .val (.int v62), .val (.int v63)] [(.int (-1 : Int32)), (.int x77)])) (fun t k => ?_) ?_
                · show Steps p.tables e below (T0.setTop (mkF m 517 #[.val (.int i0), .val (.int i1), .val (.int i2), .val (.int i3), .val (.int i4), .val (.int i5), .val (.int i6), .val (.int i7), .val (.int i8), .val (.int i9), .val (.int i10), .val (.int i11), .val (.int i12), .val (.int i13), .val (.int i14), .val (.int i15), .val (.ref (n0 + ob16)), .val (.ref (n0 + ob17)), .val (.ref (n0 + ob18)), .val (.ref (n0 + ob19)), .val (.int i20), .val (.int i21), .val (.int i22), .val (.int i23), .val (.int i24), .val (.int i25), .val (.int i26), .val (.int t0), .val (.int v56), .val (.int v57), .val (.int v58), .val (.int v59), .val (.int v60), .val (.int v61), .val (.int v62), .val (.int v63)] [(.int (-1 : Int32)), (.int x75)])) _
                  refine XS.icmpNo X0.here hx rfl (hb hby at_517) rfl (teq hc76).2 ?_
                  show Steps p.tables e below (T0.setTop (mkF m 520 #[.val (.int i0), .val (.int i1), .val (.int i2), .val (.int i3), .val (.int i4), .val (.int i5), .val (.int i6), .val (.int i7), .val (.int i8), .val (.int i9), .val (.int i10), .val (.int i11), .val (.int i12), .val (.int i13), .val (.int i14), .val (.int i15), .val (.ref (n0 + ob16)), .val (.ref (n0 + ob17)), .val (.ref (n0 + ob18)), .val (.ref (n0 + ob19)), .val (.int i20), .val (.int i21), .val (.int i22), .val (.int i23), .val (.int i24), .val (.int i25), .val (.int i26), .val (.int t0), .val (.int v56), .val (.int v57), .val (.int v58), .val (.int v59), .val (.int v60), .val (.int v61), .val (.int v62), .val (.int v63)] [])) _
                  refine XS.aload X0.here hx rfl (hb hby at_520) rfl rfl ?_
                  show Steps p.tables e below (T0.setTop (mkF m 522 #[.val (.int i0), .val (.int i1), .val (.int i2), .val (.int i3), .val (.int i4), .val (.int i5), .val (.int i6), .val (.int i7), .val (.int i8), .val (.int i9), .val (.int i10), .val (.int i11), .val (.int i12), .val (.int i13), .val (.int i14), .val (.int i15), .val (.ref (n0 + ob16)), .val (.ref (n0 + ob17)), .val (.ref (n0 + ob18)), .val (.ref (n0 + ob19)), .val (.int i20), .val (.int i21), .val (.int i22), .val (.int i23), .val (.int i24), .val (.int i25), .val (.int i26), .val (.int t0), .val (.int v56), .val (.int v57), .val (.int v58), .val (.int v59), .val (.int v60), .val (.int v61), .val (.int v62), .val (.int v63)] [(.ref (n0 + ob19))])) _
                  refine XS.bipush X0.here hx rfl (hb hby at_522) ?_
                  show Steps p.tables e below (T0.setTop (mkF m 524 #[.val (.int i0), .val (.int i1), .val (.int i2), .val (.int i3), .val (.int i4), .val (.int i5), .val (.int i6), .val (.int i7), .val (.int i8), .val (.int i9), .val (.int i10), .val (.int i11), .val (.int i12), .val (.int i13), .val (.int i14), .val (.int i15), .val (.ref (n0 + ob16)), .val (.ref (n0 + ob17)), .val (.ref (n0 + ob18)), .val (.ref (n0 + ob19)), .val (.int i20), .val (.int i21), .val (.int i22), .val (.int i23), .val (.int i24), .val (.int i25), .val (.int i26), .val (.int t0), .val (.int v56), .val (.int v57), .val (.int v58), .val (.int v59), .val (.int v60), .val (.int v61), .val (.int v62), .val (.int v63)] [(.int (6 : Int32)), (.ref (n0 + ob19))])) _
                  refine ldW X0 hx hZ e0 O0 hx77 rfl (g := (mkF m 524 #[.val (.int i0), .val (.int i1), .val (.int i2), .val (.int i3), .val (.int i4), .val (.int i5), .val (.int i6), .val (.int i7), .val (.int i8), .val (.int i9), .val (.int i10), .val (.int i11), .val (.int i12), .val (.int i13), .val (.int i14), .val (.int i15), .val (.ref (n0 + ob16)), .val (.ref (n0 + ob17)), .val (.ref (n0 + ob18)), .val (.ref (n0 + ob19)), .val (.int i20), .val (.int i21), .val (.int i22), .val (.int i23), .val (.int i24), .val (.int i25), .val (.int i26), .val (.int t0), .val (.int v56), .val (.int v57), .val (.int v58), .val (.int v59), .val (.int v60), .val (.int v61), .val (.int v62), .val (.int v63)] [(.int (6 : Int32)), (.ref (n0 + ob19))])) rfl rfl (hb hby at_524) _ ?_
                  show Steps p.tables e below (T0.setTop (mkF m 525 #[.val (.int i0), .val (.int i1), .val (.int i2), .val (.int i3), .val (.int i4), .val (.int i5), .val (.int i6), .val (.int i7), .val (.int i8), .val (.int i9), .val (.int i10), .val (.int i11), .val (.int i12), .val (.int i13), .val (.int i14), .val (.int i15), .val (.ref (n0 + ob16)), .val (.ref (n0 + ob17)), .val (.ref (n0 + ob18)), .val (.ref (n0 + ob19)), .val (.int i20), .val (.int i21), .val (.int i22), .val (.int i23), .val (.int i24), .val (.int i25), .val (.int i26), .val (.int t0), .val (.int v56), .val (.int v57), .val (.int v58), .val (.int v59), .val (.int v60), .val (.int v61), .val (.int v62), .val (.int v63)] [(.int x77)])) _
                  refine XS.iconst X0.here hx rfl (hb hby at_525) ?_
                  exact k
                by_cases hc78 : x77 = (-1 : Int32)
                · rw [if_pos hc78] at hf
                  refine Gl.on (B := T0.setTop (mkF m 534 #[.val (.int i0), .val (.int i1), .val (.int i2), .val (.int i3), .val (.int i4), .val (.int i5), .val (.int i6), .val (.int i7), .val (.int i8), .val (.int i9), .val (.int i10), .val (.int i11), .val (.int i12), .val (.int i13), .val (.int i14), .val (.int i15), .val (.ref (n0 + ob16)), .val (.ref (n0 + ob17)), .val (.ref (n0 + ob18)), .val (.ref (n0 + ob19)), .val (.int i20), .val (.int i21), .val (.int i22), .val (.int i23), .val (.int i24), .val (.int i25), .val (.int i26), .val (.int t0), .val (.int v56), .val (.int v57), .val (.int v58), .val (.int v59), .val (.int v60), .val (.int v61), .val (.int v62), .val (.int v63)] [(.int (1 : Int32))])) (fun t k => ?_) ?_
                  · show Steps p.tables e below (T0.setTop (mkF m 526 #[.val (.int i0), .val (.int i1), .val (.int i2), .val (.int i3), .val (.int i4), .val (.int i5), .val (.int i6), .val (.int i7), .val (.int i8), .val (.int i9), .val (.int i10), .val (.int i11), .val (.int i12), .val (.int i13), .val (.int i14), .val (.int i15), .val (.ref (n0 + ob16)), .val (.ref (n0 + ob17)), .val (.ref (n0 + ob18)), .val (.ref (n0 + ob19)), .val (.int i20), .val (.int i21), .val (.int i22), .val (.int i23), .val (.int i24), .val (.int i25), .val (.int i26), .val (.int t0), .val (.int v56), .val (.int v57), .val (.int v58), .val (.int v59), .val (.int v60), .val (.int v61), .val (.int v62), .val (.int v63)] [(.int (-1 : Int32)), (.int x77)])) _
                    refine XS.icmpNo X0.here hx rfl (hb hby at_526) rfl (teq hc78).2 ?_
                    show Steps p.tables e below (T0.setTop (mkF m 529 #[.val (.int i0), .val (.int i1), .val (.int i2), .val (.int i3), .val (.int i4), .val (.int i5), .val (.int i6), .val (.int i7), .val (.int i8), .val (.int i9), .val (.int i10), .val (.int i11), .val (.int i12), .val (.int i13), .val (.int i14), .val (.int i15), .val (.ref (n0 + ob16)), .val (.ref (n0 + ob17)), .val (.ref (n0 + ob18)), .val (.ref (n0 + ob19)), .val (.int i20), .val (.int i21), .val (.int i22), .val (.int i23), .val (.int i24), .val (.int i25), .val (.int i26), .val (.int t0), .val (.int v56), .val (.int v57), .val (.int v58), .val (.int v59), .val (.int v60), .val (.int v61), .val (.int v62), .val (.int v63)] [])) _
                    refine XS.iconst X0.here hx rfl (hb hby at_529) ?_
                    show Steps p.tables e below (T0.setTop (mkF m 530 #[.val (.int i0), .val (.int i1), .val (.int i2), .val (.int i3), .val (.int i4), .val (.int i5), .val (.int i6), .val (.int i7), .val (.int i8), .val (.int i9), .val (.int i10), .val (.int i11), .val (.int i12), .val (.int i13), .val (.int i14), .val (.int i15), .val (.ref (n0 + ob16)), .val (.ref (n0 + ob17)), .val (.ref (n0 + ob18)), .val (.ref (n0 + ob19)), .val (.int i20), .val (.int i21), .val (.int i22), .val (.int i23), .val (.int i24), .val (.int i25), .val (.int i26), .val (.int t0), .val (.int v56), .val (.int v57), .val (.int v58), .val (.int v59), .val (.int v60), .val (.int v61), .val (.int v62), .val (.int v63)] [(.int (1 : Int32))])) _
                    refine XS.goto X0.here hx rfl (pc0 := 530) (pc' := 534) rfl (hb hby at_530) (by decide) (by decide) ?_
                    exact k
                  obtain ⟨rfl, rfl⟩ := own_inj hf
                  exact Gl.outN X0 hx hlk (t := .boolean) hret (by simp) (hb hby at_534) ⟨rfl, N0, by rw [e0]; exact O0⟩ (by show _ ≤ 24; omega) (by show _ ≤ 192; omega)
                · rw [if_neg hc78] at hf
                  refine Gl.on (B := T0.setTop (mkF m 534 #[.val (.int i0), .val (.int i1), .val (.int i2), .val (.int i3), .val (.int i4), .val (.int i5), .val (.int i6), .val (.int i7), .val (.int i8), .val (.int i9), .val (.int i10), .val (.int i11), .val (.int i12), .val (.int i13), .val (.int i14), .val (.int i15), .val (.ref (n0 + ob16)), .val (.ref (n0 + ob17)), .val (.ref (n0 + ob18)), .val (.ref (n0 + ob19)), .val (.int i20), .val (.int i21), .val (.int i22), .val (.int i23), .val (.int i24), .val (.int i25), .val (.int i26), .val (.int t0), .val (.int v56), .val (.int v57), .val (.int v58), .val (.int v59), .val (.int v60), .val (.int v61), .val (.int v62), .val (.int v63)] [(.int (0 : Int32))])) (fun t k => ?_) ?_
                  · show Steps p.tables e below (T0.setTop (mkF m 526 #[.val (.int i0), .val (.int i1), .val (.int i2), .val (.int i3), .val (.int i4), .val (.int i5), .val (.int i6), .val (.int i7), .val (.int i8), .val (.int i9), .val (.int i10), .val (.int i11), .val (.int i12), .val (.int i13), .val (.int i14), .val (.int i15), .val (.ref (n0 + ob16)), .val (.ref (n0 + ob17)), .val (.ref (n0 + ob18)), .val (.ref (n0 + ob19)), .val (.int i20), .val (.int i21), .val (.int i22), .val (.int i23), .val (.int i24), .val (.int i25), .val (.int i26), .val (.int t0), .val (.int v56), .val (.int v57), .val (.int v58), .val (.int v59), .val (.int v60), .val (.int v61), .val (.int v62), .val (.int v63)] [(.int (-1 : Int32)), (.int x77)])) _
                    refine XS.icmpYes X0.here hx rfl (pc0 := 526) (pc' := 533) rfl (hb hby at_526) rfl (feq hc78).2 (by decide) (by decide) ?_
                    show Steps p.tables e below (T0.setTop (mkF m 533 #[.val (.int i0), .val (.int i1), .val (.int i2), .val (.int i3), .val (.int i4), .val (.int i5), .val (.int i6), .val (.int i7), .val (.int i8), .val (.int i9), .val (.int i10), .val (.int i11), .val (.int i12), .val (.int i13), .val (.int i14), .val (.int i15), .val (.ref (n0 + ob16)), .val (.ref (n0 + ob17)), .val (.ref (n0 + ob18)), .val (.ref (n0 + ob19)), .val (.int i20), .val (.int i21), .val (.int i22), .val (.int i23), .val (.int i24), .val (.int i25), .val (.int i26), .val (.int t0), .val (.int v56), .val (.int v57), .val (.int v58), .val (.int v59), .val (.int v60), .val (.int v61), .val (.int v62), .val (.int v63)] [])) _
                    refine XS.iconst X0.here hx rfl (hb hby at_533) ?_
                    exact k
                  obtain ⟨rfl, rfl⟩ := own_inj hf
                  exact Gl.outN X0 hx hlk (t := .boolean) hret (by simp) (hb hby at_534) ⟨rfl, N0, by rw [e0]; exact O0⟩ (by show _ ≤ 24; omega) (by show _ ≤ 192; omega)
              · rw [if_neg hc76] at hf
                refine Gl.on (B := T0.setTop (mkF m 534 #[.val (.int i0), .val (.int i1), .val (.int i2), .val (.int i3), .val (.int i4), .val (.int i5), .val (.int i6), .val (.int i7), .val (.int i8), .val (.int i9), .val (.int i10), .val (.int i11), .val (.int i12), .val (.int i13), .val (.int i14), .val (.int i15), .val (.ref (n0 + ob16)), .val (.ref (n0 + ob17)), .val (.ref (n0 + ob18)), .val (.ref (n0 + ob19)), .val (.int i20), .val (.int i21), .val (.int i22), .val (.int i23), .val (.int i24), .val (.int i25), .val (.int i26), .val (.int t0), .val (.int v56), .val (.int v57), .val (.int v58), .val (.int v59), .val (.int v60), .val (.int v61), .val (.int v62), .val (.int v63)] [(.int (0 : Int32))])) (fun t k => ?_) ?_
                · show Steps p.tables e below (T0.setTop (mkF m 517 #[.val (.int i0), .val (.int i1), .val (.int i2), .val (.int i3), .val (.int i4), .val (.int i5), .val (.int i6), .val (.int i7), .val (.int i8), .val (.int i9), .val (.int i10), .val (.int i11), .val (.int i12), .val (.int i13), .val (.int i14), .val (.int i15), .val (.ref (n0 + ob16)), .val (.ref (n0 + ob17)), .val (.ref (n0 + ob18)), .val (.ref (n0 + ob19)), .val (.int i20), .val (.int i21), .val (.int i22), .val (.int i23), .val (.int i24), .val (.int i25), .val (.int i26), .val (.int t0), .val (.int v56), .val (.int v57), .val (.int v58), .val (.int v59), .val (.int v60), .val (.int v61), .val (.int v62), .val (.int v63)] [(.int (-1 : Int32)), (.int x75)])) _
                  refine XS.icmpYes X0.here hx rfl (pc0 := 517) (pc' := 533) rfl (hb hby at_517) rfl (feq hc76).2 (by decide) (by decide) ?_
                  show Steps p.tables e below (T0.setTop (mkF m 533 #[.val (.int i0), .val (.int i1), .val (.int i2), .val (.int i3), .val (.int i4), .val (.int i5), .val (.int i6), .val (.int i7), .val (.int i8), .val (.int i9), .val (.int i10), .val (.int i11), .val (.int i12), .val (.int i13), .val (.int i14), .val (.int i15), .val (.ref (n0 + ob16)), .val (.ref (n0 + ob17)), .val (.ref (n0 + ob18)), .val (.ref (n0 + ob19)), .val (.int i20), .val (.int i21), .val (.int i22), .val (.int i23), .val (.int i24), .val (.int i25), .val (.int i26), .val (.int t0), .val (.int v56), .val (.int v57), .val (.int v58), .val (.int v59), .val (.int v60), .val (.int v61), .val (.int v62), .val (.int v63)] [])) _
                  refine XS.iconst X0.here hx rfl (hb hby at_533) ?_
                  exact k
                obtain ⟨rfl, rfl⟩ := own_inj hf
                exact Gl.outN X0 hx hlk (t := .boolean) hret (by simp) (hb hby at_534) ⟨rfl, N0, by rw [e0]; exact O0⟩ (by show _ ≤ 24; omega) (by show _ ≤ 192; omega)
            · rw [if_neg hc74] at hf
              refine Gl.on (B := T0.setTop (mkF m 534 #[.val (.int i0), .val (.int i1), .val (.int i2), .val (.int i3), .val (.int i4), .val (.int i5), .val (.int i6), .val (.int i7), .val (.int i8), .val (.int i9), .val (.int i10), .val (.int i11), .val (.int i12), .val (.int i13), .val (.int i14), .val (.int i15), .val (.ref (n0 + ob16)), .val (.ref (n0 + ob17)), .val (.ref (n0 + ob18)), .val (.ref (n0 + ob19)), .val (.int i20), .val (.int i21), .val (.int i22), .val (.int i23), .val (.int i24), .val (.int i25), .val (.int i26), .val (.int t0), .val (.int v56), .val (.int v57), .val (.int v58), .val (.int v59), .val (.int v60), .val (.int v61), .val (.int v62), .val (.int v63)] [(.int (0 : Int32))])) (fun t k => ?_) ?_
              · show Steps p.tables e below (T0.setTop (mkF m 509 #[.val (.int i0), .val (.int i1), .val (.int i2), .val (.int i3), .val (.int i4), .val (.int i5), .val (.int i6), .val (.int i7), .val (.int i8), .val (.int i9), .val (.int i10), .val (.int i11), .val (.int i12), .val (.int i13), .val (.int i14), .val (.int i15), .val (.ref (n0 + ob16)), .val (.ref (n0 + ob17)), .val (.ref (n0 + ob18)), .val (.ref (n0 + ob19)), .val (.int i20), .val (.int i21), .val (.int i22), .val (.int i23), .val (.int i24), .val (.int i25), .val (.int i26), .val (.int t0), .val (.int v56), .val (.int v57), .val (.int v58), .val (.int v59), .val (.int v60), .val (.int v61), .val (.int v62), .val (.int v63)] [(.int (-1 : Int32)), (.int x73)])) _
                refine XS.icmpYes X0.here hx rfl (pc0 := 509) (pc' := 533) rfl (hb hby at_509) rfl (feq hc74).2 (by decide) (by decide) ?_
                show Steps p.tables e below (T0.setTop (mkF m 533 #[.val (.int i0), .val (.int i1), .val (.int i2), .val (.int i3), .val (.int i4), .val (.int i5), .val (.int i6), .val (.int i7), .val (.int i8), .val (.int i9), .val (.int i10), .val (.int i11), .val (.int i12), .val (.int i13), .val (.int i14), .val (.int i15), .val (.ref (n0 + ob16)), .val (.ref (n0 + ob17)), .val (.ref (n0 + ob18)), .val (.ref (n0 + ob19)), .val (.int i20), .val (.int i21), .val (.int i22), .val (.int i23), .val (.int i24), .val (.int i25), .val (.int i26), .val (.int t0), .val (.int v56), .val (.int v57), .val (.int v58), .val (.int v59), .val (.int v60), .val (.int v61), .val (.int v62), .val (.int v63)] [])) _
                refine XS.iconst X0.here hx rfl (hb hby at_533) ?_
                exact k
              obtain ⟨rfl, rfl⟩ := own_inj hf
              exact Gl.outN X0 hx hlk (t := .boolean) hret (by simp) (hb hby at_534) ⟨rfl, N0, by rw [e0]; exact O0⟩ (by show _ ≤ 24; omega) (by show _ ≤ 192; omega)
          · rw [if_neg hc72] at hf
            refine Gl.on (B := T0.setTop (mkF m 534 #[.val (.int i0), .val (.int i1), .val (.int i2), .val (.int i3), .val (.int i4), .val (.int i5), .val (.int i6), .val (.int i7), .val (.int i8), .val (.int i9), .val (.int i10), .val (.int i11), .val (.int i12), .val (.int i13), .val (.int i14), .val (.int i15), .val (.ref (n0 + ob16)), .val (.ref (n0 + ob17)), .val (.ref (n0 + ob18)), .val (.ref (n0 + ob19)), .val (.int i20), .val (.int i21), .val (.int i22), .val (.int i23), .val (.int i24), .val (.int i25), .val (.int i26), .val (.int t0), .val (.int v56), .val (.int v57), .val (.int v58), .val (.int v59), .val (.int v60), .val (.int v61), .val (.int v62), .val (.int v63)] [(.int (0 : Int32))])) (fun t k => ?_) ?_
            · show Steps p.tables e below (T0.setTop (mkF m 501 #[.val (.int i0), .val (.int i1), .val (.int i2), .val (.int i3), .val (.int i4), .val (.int i5), .val (.int i6), .val (.int i7), .val (.int i8), .val (.int i9), .val (.int i10), .val (.int i11), .val (.int i12), .val (.int i13), .val (.int i14), .val (.int i15), .val (.ref (n0 + ob16)), .val (.ref (n0 + ob17)), .val (.ref (n0 + ob18)), .val (.ref (n0 + ob19)), .val (.int i20), .val (.int i21), .val (.int i22), .val (.int i23), .val (.int i24), .val (.int i25), .val (.int i26), .val (.int t0), .val (.int v56), .val (.int v57), .val (.int v58), .val (.int v59), .val (.int v60), .val (.int v61), .val (.int v62), .val (.int v63)] [(.int (-1 : Int32)), (.int x71)])) _
              refine XS.icmpYes X0.here hx rfl (pc0 := 501) (pc' := 533) rfl (hb hby at_501) rfl (feq hc72).2 (by decide) (by decide) ?_
              show Steps p.tables e below (T0.setTop (mkF m 533 #[.val (.int i0), .val (.int i1), .val (.int i2), .val (.int i3), .val (.int i4), .val (.int i5), .val (.int i6), .val (.int i7), .val (.int i8), .val (.int i9), .val (.int i10), .val (.int i11), .val (.int i12), .val (.int i13), .val (.int i14), .val (.int i15), .val (.ref (n0 + ob16)), .val (.ref (n0 + ob17)), .val (.ref (n0 + ob18)), .val (.ref (n0 + ob19)), .val (.int i20), .val (.int i21), .val (.int i22), .val (.int i23), .val (.int i24), .val (.int i25), .val (.int i26), .val (.int t0), .val (.int v56), .val (.int v57), .val (.int v58), .val (.int v59), .val (.int v60), .val (.int v61), .val (.int v62), .val (.int v63)] [])) _
              refine XS.iconst X0.here hx rfl (hb hby at_533) ?_
              exact k
            obtain ⟨rfl, rfl⟩ := own_inj hf
            exact Gl.outN X0 hx hlk (t := .boolean) hret (by simp) (hb hby at_534) ⟨rfl, N0, by rw [e0]; exact O0⟩ (by show _ ≤ 24; omega) (by show _ ≤ 192; omega)
        · rw [if_neg hc70] at hf
          refine Gl.on (B := T0.setTop (mkF m 534 #[.val (.int i0), .val (.int i1), .val (.int i2), .val (.int i3), .val (.int i4), .val (.int i5), .val (.int i6), .val (.int i7), .val (.int i8), .val (.int i9), .val (.int i10), .val (.int i11), .val (.int i12), .val (.int i13), .val (.int i14), .val (.int i15), .val (.ref (n0 + ob16)), .val (.ref (n0 + ob17)), .val (.ref (n0 + ob18)), .val (.ref (n0 + ob19)), .val (.int i20), .val (.int i21), .val (.int i22), .val (.int i23), .val (.int i24), .val (.int i25), .val (.int i26), .val (.int t0), .val (.int v56), .val (.int v57), .val (.int v58), .val (.int v59), .val (.int v60), .val (.int v61), .val (.int v62), .val (.int v63)] [(.int (0 : Int32))])) (fun t k => ?_) ?_
          · show Steps p.tables e below (T0.setTop (mkF m 493 #[.val (.int i0), .val (.int i1), .val (.int i2), .val (.int i3), .val (.int i4), .val (.int i5), .val (.int i6), .val (.int i7), .val (.int i8), .val (.int i9), .val (.int i10), .val (.int i11), .val (.int i12), .val (.int i13), .val (.int i14), .val (.int i15), .val (.ref (n0 + ob16)), .val (.ref (n0 + ob17)), .val (.ref (n0 + ob18)), .val (.ref (n0 + ob19)), .val (.int i20), .val (.int i21), .val (.int i22), .val (.int i23), .val (.int i24), .val (.int i25), .val (.int i26), .val (.int t0), .val (.int v56), .val (.int v57), .val (.int v58), .val (.int v59), .val (.int v60), .val (.int v61), .val (.int v62), .val (.int v63)] [(.int (-1 : Int32)), (.int x69)])) _
            refine XS.icmpYes X0.here hx rfl (pc0 := 493) (pc' := 533) rfl (hb hby at_493) rfl (feq hc70).2 (by decide) (by decide) ?_
            show Steps p.tables e below (T0.setTop (mkF m 533 #[.val (.int i0), .val (.int i1), .val (.int i2), .val (.int i3), .val (.int i4), .val (.int i5), .val (.int i6), .val (.int i7), .val (.int i8), .val (.int i9), .val (.int i10), .val (.int i11), .val (.int i12), .val (.int i13), .val (.int i14), .val (.int i15), .val (.ref (n0 + ob16)), .val (.ref (n0 + ob17)), .val (.ref (n0 + ob18)), .val (.ref (n0 + ob19)), .val (.int i20), .val (.int i21), .val (.int i22), .val (.int i23), .val (.int i24), .val (.int i25), .val (.int i26), .val (.int t0), .val (.int v56), .val (.int v57), .val (.int v58), .val (.int v59), .val (.int v60), .val (.int v61), .val (.int v62), .val (.int v63)] [])) _
            refine XS.iconst X0.here hx rfl (hb hby at_533) ?_
            exact k
          obtain ⟨rfl, rfl⟩ := own_inj hf
          exact Gl.outN X0 hx hlk (t := .boolean) hret (by simp) (hb hby at_534) ⟨rfl, N0, by rw [e0]; exact O0⟩ (by show _ ≤ 24; omega) (by show _ ≤ 192; omega)
      · rw [if_neg hc68] at hf
        refine Gl.on (B := T0.setTop (mkF m 534 #[.val (.int i0), .val (.int i1), .val (.int i2), .val (.int i3), .val (.int i4), .val (.int i5), .val (.int i6), .val (.int i7), .val (.int i8), .val (.int i9), .val (.int i10), .val (.int i11), .val (.int i12), .val (.int i13), .val (.int i14), .val (.int i15), .val (.ref (n0 + ob16)), .val (.ref (n0 + ob17)), .val (.ref (n0 + ob18)), .val (.ref (n0 + ob19)), .val (.int i20), .val (.int i21), .val (.int i22), .val (.int i23), .val (.int i24), .val (.int i25), .val (.int i26), .val (.int t0), .val (.int v56), .val (.int v57), .val (.int v58), .val (.int v59), .val (.int v60), .val (.int v61), .val (.int v62), .val (.int v63)] [(.int (0 : Int32))])) (fun t k => ?_) ?_
        · show Steps p.tables e below (T0.setTop (mkF m 485 #[.val (.int i0), .val (.int i1), .val (.int i2), .val (.int i3), .val (.int i4), .val (.int i5), .val (.int i6), .val (.int i7), .val (.int i8), .val (.int i9), .val (.int i10), .val (.int i11), .val (.int i12), .val (.int i13), .val (.int i14), .val (.int i15), .val (.ref (n0 + ob16)), .val (.ref (n0 + ob17)), .val (.ref (n0 + ob18)), .val (.ref (n0 + ob19)), .val (.int i20), .val (.int i21), .val (.int i22), .val (.int i23), .val (.int i24), .val (.int i25), .val (.int i26), .val (.int t0), .val (.int v56), .val (.int v57), .val (.int v58), .val (.int v59), .val (.int v60), .val (.int v61), .val (.int v62), .val (.int v63)] [(.int (-1 : Int32)), (.int x67)])) _
          refine XS.icmpYes X0.here hx rfl (pc0 := 485) (pc' := 533) rfl (hb hby at_485) rfl (feq hc68).2 (by decide) (by decide) ?_
          show Steps p.tables e below (T0.setTop (mkF m 533 #[.val (.int i0), .val (.int i1), .val (.int i2), .val (.int i3), .val (.int i4), .val (.int i5), .val (.int i6), .val (.int i7), .val (.int i8), .val (.int i9), .val (.int i10), .val (.int i11), .val (.int i12), .val (.int i13), .val (.int i14), .val (.int i15), .val (.ref (n0 + ob16)), .val (.ref (n0 + ob17)), .val (.ref (n0 + ob18)), .val (.ref (n0 + ob19)), .val (.int i20), .val (.int i21), .val (.int i22), .val (.int i23), .val (.int i24), .val (.int i25), .val (.int i26), .val (.int t0), .val (.int v56), .val (.int v57), .val (.int v58), .val (.int v59), .val (.int v60), .val (.int v61), .val (.int v62), .val (.int v63)] [])) _
          refine XS.iconst X0.here hx rfl (hb hby at_533) ?_
          exact k
        obtain ⟨rfl, rfl⟩ := own_inj hf
        exact Gl.outN X0 hx hlk (t := .boolean) hret (by simp) (hb hby at_534) ⟨rfl, N0, by rw [e0]; exact O0⟩ (by show _ ≤ 24; omega) (by show _ ≤ 192; omega)
    · rw [if_neg hc66] at hf
      refine Gl.on (B := T0.setTop (mkF m 534 #[.val (.int i0), .val (.int i1), .val (.int i2), .val (.int i3), .val (.int i4), .val (.int i5), .val (.int i6), .val (.int i7), .val (.int i8), .val (.int i9), .val (.int i10), .val (.int i11), .val (.int i12), .val (.int i13), .val (.int i14), .val (.int i15), .val (.ref (n0 + ob16)), .val (.ref (n0 + ob17)), .val (.ref (n0 + ob18)), .val (.ref (n0 + ob19)), .val (.int i20), .val (.int i21), .val (.int i22), .val (.int i23), .val (.int i24), .val (.int i25), .val (.int i26), .val (.int t0), .val (.int v56), .val (.int v57), .val (.int v58), .val (.int v59), .val (.int v60), .val (.int v61), .val (.int v62), .val (.int v63)] [(.int (0 : Int32))])) (fun t k => ?_) ?_
      · show Steps p.tables e below (T0.setTop (mkF m 477 #[.val (.int i0), .val (.int i1), .val (.int i2), .val (.int i3), .val (.int i4), .val (.int i5), .val (.int i6), .val (.int i7), .val (.int i8), .val (.int i9), .val (.int i10), .val (.int i11), .val (.int i12), .val (.int i13), .val (.int i14), .val (.int i15), .val (.ref (n0 + ob16)), .val (.ref (n0 + ob17)), .val (.ref (n0 + ob18)), .val (.ref (n0 + ob19)), .val (.int i20), .val (.int i21), .val (.int i22), .val (.int i23), .val (.int i24), .val (.int i25), .val (.int i26), .val (.int t0), .val (.int v56), .val (.int v57), .val (.int v58), .val (.int v59), .val (.int v60), .val (.int v61), .val (.int v62), .val (.int v63)] [(.int v58), (.int x65)])) _
        refine XS.icmpYes X0.here hx rfl (pc0 := 477) (pc' := 533) rfl (hb hby at_477) rfl (feq hc66).2 (by decide) (by decide) ?_
        show Steps p.tables e below (T0.setTop (mkF m 533 #[.val (.int i0), .val (.int i1), .val (.int i2), .val (.int i3), .val (.int i4), .val (.int i5), .val (.int i6), .val (.int i7), .val (.int i8), .val (.int i9), .val (.int i10), .val (.int i11), .val (.int i12), .val (.int i13), .val (.int i14), .val (.int i15), .val (.ref (n0 + ob16)), .val (.ref (n0 + ob17)), .val (.ref (n0 + ob18)), .val (.ref (n0 + ob19)), .val (.int i20), .val (.int i21), .val (.int i22), .val (.int i23), .val (.int i24), .val (.int i25), .val (.int i26), .val (.int t0), .val (.int v56), .val (.int v57), .val (.int v58), .val (.int v59), .val (.int v60), .val (.int v61), .val (.int v62), .val (.int v63)] [])) _
        refine XS.iconst X0.here hx rfl (hb hby at_533) ?_
        exact k
      obtain ⟨rfl, rfl⟩ := own_inj hf
      exact Gl.outN X0 hx hlk (t := .boolean) hret (by simp) (hb hby at_534) ⟨rfl, N0, by rw [e0]; exact O0⟩ (by show _ ≤ 24; omega) (by show _ ≤ 192; omega)
  · rw [if_neg hc64] at hf
    refine Gl.on (B := T0.setTop (mkF m 538 #[.val (.int i0), .val (.int i1), .val (.int i2), .val (.int i3), .val (.int i4), .val (.int i5), .val (.int i6), .val (.int i7), .val (.int i8), .val (.int i9), .val (.int i10), .val (.int i11), .val (.int i12), .val (.int i13), .val (.int i14), .val (.int i15), .val (.ref (n0 + ob16)), .val (.ref (n0 + ob17)), .val (.ref (n0 + ob18)), .val (.ref (n0 + ob19)), .val (.int i20), .val (.int i21), .val (.int i22), .val (.int i23), .val (.int i24), .val (.int i25), .val (.int i26), .val (.int t0), .val (.int v56), .val (.int v57), .val (.int v58), .val (.int v59), .val (.int v60), .val (.int v61), .val (.int v62), .val (.int v63)] [(.int (3 : Int32)), (.int i10)])) (fun t k => ?_) ?_
    · show Steps p.tables e below (T0.setTop (mkF m 468 #[.val (.int i0), .val (.int i1), .val (.int i2), .val (.int i3), .val (.int i4), .val (.int i5), .val (.int i6), .val (.int i7), .val (.int i8), .val (.int i9), .val (.int i10), .val (.int i11), .val (.int i12), .val (.int i13), .val (.int i14), .val (.int i15), .val (.ref (n0 + ob16)), .val (.ref (n0 + ob17)), .val (.ref (n0 + ob18)), .val (.ref (n0 + ob19)), .val (.int i20), .val (.int i21), .val (.int i22), .val (.int i23), .val (.int i24), .val (.int i25), .val (.int i26), .val (.int t0), .val (.int v56), .val (.int v57), .val (.int v58), .val (.int v59), .val (.int v60), .val (.int v61), .val (.int v62), .val (.int v63)] [(.int (2 : Int32)), (.int i10)])) _
      refine XS.icmpYes X0.here hx rfl (pc0 := 468) (pc' := 535) rfl (hb hby at_468) rfl (feq hc64).2 (by decide) (by decide) ?_
      show Steps p.tables e below (T0.setTop (mkF m 535 #[.val (.int i0), .val (.int i1), .val (.int i2), .val (.int i3), .val (.int i4), .val (.int i5), .val (.int i6), .val (.int i7), .val (.int i8), .val (.int i9), .val (.int i10), .val (.int i11), .val (.int i12), .val (.int i13), .val (.int i14), .val (.int i15), .val (.ref (n0 + ob16)), .val (.ref (n0 + ob17)), .val (.ref (n0 + ob18)), .val (.ref (n0 + ob19)), .val (.int i20), .val (.int i21), .val (.int i22), .val (.int i23), .val (.int i24), .val (.int i25), .val (.int i26), .val (.int t0), .val (.int v56), .val (.int v57), .val (.int v58), .val (.int v59), .val (.int v60), .val (.int v61), .val (.int v62), .val (.int v63)] [])) _
      refine XS.iload X0.here hx rfl (hb hby at_535) rfl ?_
      show Steps p.tables e below (T0.setTop (mkF m 537 #[.val (.int i0), .val (.int i1), .val (.int i2), .val (.int i3), .val (.int i4), .val (.int i5), .val (.int i6), .val (.int i7), .val (.int i8), .val (.int i9), .val (.int i10), .val (.int i11), .val (.int i12), .val (.int i13), .val (.int i14), .val (.int i15), .val (.ref (n0 + ob16)), .val (.ref (n0 + ob17)), .val (.ref (n0 + ob18)), .val (.ref (n0 + ob19)), .val (.int i20), .val (.int i21), .val (.int i22), .val (.int i23), .val (.int i24), .val (.int i25), .val (.int i26), .val (.int t0), .val (.int v56), .val (.int v57), .val (.int v58), .val (.int v59), .val (.int v60), .val (.int v61), .val (.int v62), .val (.int v63)] [(.int i10)])) _
      refine XS.iconst X0.here hx rfl (hb hby at_537) ?_
      exact k
    by_cases hc79 : i10 = (3 : Int32)
    · rw [if_pos hc79] at hf
      obtain ⟨x80, hx80, hf⟩ := own_bind hf
      refine Gl.on (B := T0.setTop (mkF m 547 #[.val (.int i0), .val (.int i1), .val (.int i2), .val (.int i3), .val (.int i4), .val (.int i5), .val (.int i6), .val (.int i7), .val (.int i8), .val (.int i9), .val (.int i10), .val (.int i11), .val (.int i12), .val (.int i13), .val (.int i14), .val (.int i15), .val (.ref (n0 + ob16)), .val (.ref (n0 + ob17)), .val (.ref (n0 + ob18)), .val (.ref (n0 + ob19)), .val (.int i20), .val (.int i21), .val (.int i22), .val (.int i23), .val (.int i24), .val (.int i25), .val (.int i26), .val (.int t0), .val (.int v56), .val (.int v57), .val (.int v58), .val (.int v59), .val (.int v60), .val (.int v61), .val (.int v62), .val (.int v63)] [(.int v58), (.int x80)])) (fun t k => ?_) ?_
      · show Steps p.tables e below (T0.setTop (mkF m 538 #[.val (.int i0), .val (.int i1), .val (.int i2), .val (.int i3), .val (.int i4), .val (.int i5), .val (.int i6), .val (.int i7), .val (.int i8), .val (.int i9), .val (.int i10), .val (.int i11), .val (.int i12), .val (.int i13), .val (.int i14), .val (.int i15), .val (.ref (n0 + ob16)), .val (.ref (n0 + ob17)), .val (.ref (n0 + ob18)), .val (.ref (n0 + ob19)), .val (.int i20), .val (.int i21), .val (.int i22), .val (.int i23), .val (.int i24), .val (.int i25), .val (.int i26), .val (.int t0), .val (.int v56), .val (.int v57), .val (.int v58), .val (.int v59), .val (.int v60), .val (.int v61), .val (.int v62), .val (.int v63)] [(.int (3 : Int32)), (.int i10)])) _
        refine XS.icmpNo X0.here hx rfl (hb hby at_538) rfl (teq hc79).2 ?_
        show Steps p.tables e below (T0.setTop (mkF m 541 #[.val (.int i0), .val (.int i1), .val (.int i2), .val (.int i3), .val (.int i4), .val (.int i5), .val (.int i6), .val (.int i7), .val (.int i8), .val (.int i9), .val (.int i10), .val (.int i11), .val (.int i12), .val (.int i13), .val (.int i14), .val (.int i15), .val (.ref (n0 + ob16)), .val (.ref (n0 + ob17)), .val (.ref (n0 + ob18)), .val (.ref (n0 + ob19)), .val (.int i20), .val (.int i21), .val (.int i22), .val (.int i23), .val (.int i24), .val (.int i25), .val (.int i26), .val (.int t0), .val (.int v56), .val (.int v57), .val (.int v58), .val (.int v59), .val (.int v60), .val (.int v61), .val (.int v62), .val (.int v63)] [])) _
        refine XS.aload X0.here hx rfl (hb hby at_541) rfl rfl ?_
        show Steps p.tables e below (T0.setTop (mkF m 543 #[.val (.int i0), .val (.int i1), .val (.int i2), .val (.int i3), .val (.int i4), .val (.int i5), .val (.int i6), .val (.int i7), .val (.int i8), .val (.int i9), .val (.int i10), .val (.int i11), .val (.int i12), .val (.int i13), .val (.int i14), .val (.int i15), .val (.ref (n0 + ob16)), .val (.ref (n0 + ob17)), .val (.ref (n0 + ob18)), .val (.ref (n0 + ob19)), .val (.int i20), .val (.int i21), .val (.int i22), .val (.int i23), .val (.int i24), .val (.int i25), .val (.int i26), .val (.int t0), .val (.int v56), .val (.int v57), .val (.int v58), .val (.int v59), .val (.int v60), .val (.int v61), .val (.int v62), .val (.int v63)] [(.ref (n0 + ob19))])) _
        refine XS.iconst X0.here hx rfl (hb hby at_543) ?_
        show Steps p.tables e below (T0.setTop (mkF m 544 #[.val (.int i0), .val (.int i1), .val (.int i2), .val (.int i3), .val (.int i4), .val (.int i5), .val (.int i6), .val (.int i7), .val (.int i8), .val (.int i9), .val (.int i10), .val (.int i11), .val (.int i12), .val (.int i13), .val (.int i14), .val (.int i15), .val (.ref (n0 + ob16)), .val (.ref (n0 + ob17)), .val (.ref (n0 + ob18)), .val (.ref (n0 + ob19)), .val (.int i20), .val (.int i21), .val (.int i22), .val (.int i23), .val (.int i24), .val (.int i25), .val (.int i26), .val (.int t0), .val (.int v56), .val (.int v57), .val (.int v58), .val (.int v59), .val (.int v60), .val (.int v61), .val (.int v62), .val (.int v63)] [(.int (0 : Int32)), (.ref (n0 + ob19))])) _
        refine ldW X0 hx hZ e0 O0 hx80 rfl (g := (mkF m 544 #[.val (.int i0), .val (.int i1), .val (.int i2), .val (.int i3), .val (.int i4), .val (.int i5), .val (.int i6), .val (.int i7), .val (.int i8), .val (.int i9), .val (.int i10), .val (.int i11), .val (.int i12), .val (.int i13), .val (.int i14), .val (.int i15), .val (.ref (n0 + ob16)), .val (.ref (n0 + ob17)), .val (.ref (n0 + ob18)), .val (.ref (n0 + ob19)), .val (.int i20), .val (.int i21), .val (.int i22), .val (.int i23), .val (.int i24), .val (.int i25), .val (.int i26), .val (.int t0), .val (.int v56), .val (.int v57), .val (.int v58), .val (.int v59), .val (.int v60), .val (.int v61), .val (.int v62), .val (.int v63)] [(.int (0 : Int32)), (.ref (n0 + ob19))])) rfl rfl (hb hby at_544) _ ?_
        show Steps p.tables e below (T0.setTop (mkF m 545 #[.val (.int i0), .val (.int i1), .val (.int i2), .val (.int i3), .val (.int i4), .val (.int i5), .val (.int i6), .val (.int i7), .val (.int i8), .val (.int i9), .val (.int i10), .val (.int i11), .val (.int i12), .val (.int i13), .val (.int i14), .val (.int i15), .val (.ref (n0 + ob16)), .val (.ref (n0 + ob17)), .val (.ref (n0 + ob18)), .val (.ref (n0 + ob19)), .val (.int i20), .val (.int i21), .val (.int i22), .val (.int i23), .val (.int i24), .val (.int i25), .val (.int i26), .val (.int t0), .val (.int v56), .val (.int v57), .val (.int v58), .val (.int v59), .val (.int v60), .val (.int v61), .val (.int v62), .val (.int v63)] [(.int x80)])) _
        refine XS.iload X0.here hx rfl (hb hby at_545) rfl ?_
        exact k
      by_cases hc81 : x80 = v58
      · rw [if_pos hc81] at hf
        obtain ⟨x82, hx82, hf⟩ := own_bind hf
        refine Gl.on (B := T0.setTop (mkF m 556 #[.val (.int i0), .val (.int i1), .val (.int i2), .val (.int i3), .val (.int i4), .val (.int i5), .val (.int i6), .val (.int i7), .val (.int i8), .val (.int i9), .val (.int i10), .val (.int i11), .val (.int i12), .val (.int i13), .val (.int i14), .val (.int i15), .val (.ref (n0 + ob16)), .val (.ref (n0 + ob17)), .val (.ref (n0 + ob18)), .val (.ref (n0 + ob19)), .val (.int i20), .val (.int i21), .val (.int i22), .val (.int i23), .val (.int i24), .val (.int i25), .val (.int i26), .val (.int t0), .val (.int v56), .val (.int v57), .val (.int v58), .val (.int v59), .val (.int v60), .val (.int v61), .val (.int v62), .val (.int v63)] [(.int v59), (.int x82)])) (fun t k => ?_) ?_
        · show Steps p.tables e below (T0.setTop (mkF m 547 #[.val (.int i0), .val (.int i1), .val (.int i2), .val (.int i3), .val (.int i4), .val (.int i5), .val (.int i6), .val (.int i7), .val (.int i8), .val (.int i9), .val (.int i10), .val (.int i11), .val (.int i12), .val (.int i13), .val (.int i14), .val (.int i15), .val (.ref (n0 + ob16)), .val (.ref (n0 + ob17)), .val (.ref (n0 + ob18)), .val (.ref (n0 + ob19)), .val (.int i20), .val (.int i21), .val (.int i22), .val (.int i23), .val (.int i24), .val (.int i25), .val (.int i26), .val (.int t0), .val (.int v56), .val (.int v57), .val (.int v58), .val (.int v59), .val (.int v60), .val (.int v61), .val (.int v62), .val (.int v63)] [(.int v58), (.int x80)])) _
          refine XS.icmpNo X0.here hx rfl (hb hby at_547) rfl (teq hc81).2 ?_
          show Steps p.tables e below (T0.setTop (mkF m 550 #[.val (.int i0), .val (.int i1), .val (.int i2), .val (.int i3), .val (.int i4), .val (.int i5), .val (.int i6), .val (.int i7), .val (.int i8), .val (.int i9), .val (.int i10), .val (.int i11), .val (.int i12), .val (.int i13), .val (.int i14), .val (.int i15), .val (.ref (n0 + ob16)), .val (.ref (n0 + ob17)), .val (.ref (n0 + ob18)), .val (.ref (n0 + ob19)), .val (.int i20), .val (.int i21), .val (.int i22), .val (.int i23), .val (.int i24), .val (.int i25), .val (.int i26), .val (.int t0), .val (.int v56), .val (.int v57), .val (.int v58), .val (.int v59), .val (.int v60), .val (.int v61), .val (.int v62), .val (.int v63)] [])) _
          refine XS.aload X0.here hx rfl (hb hby at_550) rfl rfl ?_
          show Steps p.tables e below (T0.setTop (mkF m 552 #[.val (.int i0), .val (.int i1), .val (.int i2), .val (.int i3), .val (.int i4), .val (.int i5), .val (.int i6), .val (.int i7), .val (.int i8), .val (.int i9), .val (.int i10), .val (.int i11), .val (.int i12), .val (.int i13), .val (.int i14), .val (.int i15), .val (.ref (n0 + ob16)), .val (.ref (n0 + ob17)), .val (.ref (n0 + ob18)), .val (.ref (n0 + ob19)), .val (.int i20), .val (.int i21), .val (.int i22), .val (.int i23), .val (.int i24), .val (.int i25), .val (.int i26), .val (.int t0), .val (.int v56), .val (.int v57), .val (.int v58), .val (.int v59), .val (.int v60), .val (.int v61), .val (.int v62), .val (.int v63)] [(.ref (n0 + ob19))])) _
          refine XS.iconst X0.here hx rfl (hb hby at_552) ?_
          show Steps p.tables e below (T0.setTop (mkF m 553 #[.val (.int i0), .val (.int i1), .val (.int i2), .val (.int i3), .val (.int i4), .val (.int i5), .val (.int i6), .val (.int i7), .val (.int i8), .val (.int i9), .val (.int i10), .val (.int i11), .val (.int i12), .val (.int i13), .val (.int i14), .val (.int i15), .val (.ref (n0 + ob16)), .val (.ref (n0 + ob17)), .val (.ref (n0 + ob18)), .val (.ref (n0 + ob19)), .val (.int i20), .val (.int i21), .val (.int i22), .val (.int i23), .val (.int i24), .val (.int i25), .val (.int i26), .val (.int t0), .val (.int v56), .val (.int v57), .val (.int v58), .val (.int v59), .val (.int v60), .val (.int v61), .val (.int v62), .val (.int v63)] [(.int (1 : Int32)), (.ref (n0 + ob19))])) _
          refine ldW X0 hx hZ e0 O0 hx82 rfl (g := (mkF m 553 #[.val (.int i0), .val (.int i1), .val (.int i2), .val (.int i3), .val (.int i4), .val (.int i5), .val (.int i6), .val (.int i7), .val (.int i8), .val (.int i9), .val (.int i10), .val (.int i11), .val (.int i12), .val (.int i13), .val (.int i14), .val (.int i15), .val (.ref (n0 + ob16)), .val (.ref (n0 + ob17)), .val (.ref (n0 + ob18)), .val (.ref (n0 + ob19)), .val (.int i20), .val (.int i21), .val (.int i22), .val (.int i23), .val (.int i24), .val (.int i25), .val (.int i26), .val (.int t0), .val (.int v56), .val (.int v57), .val (.int v58), .val (.int v59), .val (.int v60), .val (.int v61), .val (.int v62), .val (.int v63)] [(.int (1 : Int32)), (.ref (n0 + ob19))])) rfl rfl (hb hby at_553) _ ?_
          show Steps p.tables e below (T0.setTop (mkF m 554 #[.val (.int i0), .val (.int i1), .val (.int i2), .val (.int i3), .val (.int i4), .val (.int i5), .val (.int i6), .val (.int i7), .val (.int i8), .val (.int i9), .val (.int i10), .val (.int i11), .val (.int i12), .val (.int i13), .val (.int i14), .val (.int i15), .val (.ref (n0 + ob16)), .val (.ref (n0 + ob17)), .val (.ref (n0 + ob18)), .val (.ref (n0 + ob19)), .val (.int i20), .val (.int i21), .val (.int i22), .val (.int i23), .val (.int i24), .val (.int i25), .val (.int i26), .val (.int t0), .val (.int v56), .val (.int v57), .val (.int v58), .val (.int v59), .val (.int v60), .val (.int v61), .val (.int v62), .val (.int v63)] [(.int x82)])) _
          refine XS.iload X0.here hx rfl (hb hby at_554) rfl ?_
          exact k
        by_cases hc83 : x82 = v59
        · rw [if_pos hc83] at hf
          obtain ⟨x84, hx84, hf⟩ := own_bind hf
          refine Gl.on (B := T0.setTop (mkF m 565 #[.val (.int i0), .val (.int i1), .val (.int i2), .val (.int i3), .val (.int i4), .val (.int i5), .val (.int i6), .val (.int i7), .val (.int i8), .val (.int i9), .val (.int i10), .val (.int i11), .val (.int i12), .val (.int i13), .val (.int i14), .val (.int i15), .val (.ref (n0 + ob16)), .val (.ref (n0 + ob17)), .val (.ref (n0 + ob18)), .val (.ref (n0 + ob19)), .val (.int i20), .val (.int i21), .val (.int i22), .val (.int i23), .val (.int i24), .val (.int i25), .val (.int i26), .val (.int t0), .val (.int v56), .val (.int v57), .val (.int v58), .val (.int v59), .val (.int v60), .val (.int v61), .val (.int v62), .val (.int v63)] [(.int v61), (.int x84)])) (fun t k => ?_) ?_
          · show Steps p.tables e below (T0.setTop (mkF m 556 #[.val (.int i0), .val (.int i1), .val (.int i2), .val (.int i3), .val (.int i4), .val (.int i5), .val (.int i6), .val (.int i7), .val (.int i8), .val (.int i9), .val (.int i10), .val (.int i11), .val (.int i12), .val (.int i13), .val (.int i14), .val (.int i15), .val (.ref (n0 + ob16)), .val (.ref (n0 + ob17)), .val (.ref (n0 + ob18)), .val (.ref (n0 + ob19)), .val (.int i20), .val (.int i21), .val (.int i22), .val (.int i23), .val (.int i24), .val (.int i25), .val (.int i26), .val (.int t0), .val (.int v56), .val (.int v57), .val (.int v58), .val (.int v59), .val (.int v60), .val (.int v61), .val (.int v62), .val (.int v63)] [(.int v59), (.int x82)])) _
            refine XS.icmpNo X0.here hx rfl (hb hby at_556) rfl (teq hc83).2 ?_
            show Steps p.tables e below (T0.setTop (mkF m 559 #[.val (.int i0), .val (.int i1), .val (.int i2), .val (.int i3), .val (.int i4), .val (.int i5), .val (.int i6), .val (.int i7), .val (.int i8), .val (.int i9), .val (.int i10), .val (.int i11), .val (.int i12), .val (.int i13), .val (.int i14), .val (.int i15), .val (.ref (n0 + ob16)), .val (.ref (n0 + ob17)), .val (.ref (n0 + ob18)), .val (.ref (n0 + ob19)), .val (.int i20), .val (.int i21), .val (.int i22), .val (.int i23), .val (.int i24), .val (.int i25), .val (.int i26), .val (.int t0), .val (.int v56), .val (.int v57), .val (.int v58), .val (.int v59), .val (.int v60), .val (.int v61), .val (.int v62), .val (.int v63)] [])) _
            refine XS.aload X0.here hx rfl (hb hby at_559) rfl rfl ?_
            show Steps p.tables e below (T0.setTop (mkF m 561 #[.val (.int i0), .val (.int i1), .val (.int i2), .val (.int i3), .val (.int i4), .val (.int i5), .val (.int i6), .val (.int i7), .val (.int i8), .val (.int i9), .val (.int i10), .val (.int i11), .val (.int i12), .val (.int i13), .val (.int i14), .val (.int i15), .val (.ref (n0 + ob16)), .val (.ref (n0 + ob17)), .val (.ref (n0 + ob18)), .val (.ref (n0 + ob19)), .val (.int i20), .val (.int i21), .val (.int i22), .val (.int i23), .val (.int i24), .val (.int i25), .val (.int i26), .val (.int t0), .val (.int v56), .val (.int v57), .val (.int v58), .val (.int v59), .val (.int v60), .val (.int v61), .val (.int v62), .val (.int v63)] [(.ref (n0 + ob19))])) _
            refine XS.iconst X0.here hx rfl (hb hby at_561) ?_
            show Steps p.tables e below (T0.setTop (mkF m 562 #[.val (.int i0), .val (.int i1), .val (.int i2), .val (.int i3), .val (.int i4), .val (.int i5), .val (.int i6), .val (.int i7), .val (.int i8), .val (.int i9), .val (.int i10), .val (.int i11), .val (.int i12), .val (.int i13), .val (.int i14), .val (.int i15), .val (.ref (n0 + ob16)), .val (.ref (n0 + ob17)), .val (.ref (n0 + ob18)), .val (.ref (n0 + ob19)), .val (.int i20), .val (.int i21), .val (.int i22), .val (.int i23), .val (.int i24), .val (.int i25), .val (.int i26), .val (.int t0), .val (.int v56), .val (.int v57), .val (.int v58), .val (.int v59), .val (.int v60), .val (.int v61), .val (.int v62), .val (.int v63)] [(.int (2 : Int32)), (.ref (n0 + ob19))])) _
            refine ldW X0 hx hZ e0 O0 hx84 rfl (g := (mkF m 562 #[.val (.int i0), .val (.int i1), .val (.int i2), .val (.int i3), .val (.int i4), .val (.int i5), .val (.int i6), .val (.int i7), .val (.int i8), .val (.int i9), .val (.int i10), .val (.int i11), .val (.int i12), .val (.int i13), .val (.int i14), .val (.int i15), .val (.ref (n0 + ob16)), .val (.ref (n0 + ob17)), .val (.ref (n0 + ob18)), .val (.ref (n0 + ob19)), .val (.int i20), .val (.int i21), .val (.int i22), .val (.int i23), .val (.int i24), .val (.int i25), .val (.int i26), .val (.int t0), .val (.int v56), .val (.int v57), .val (.int v58), .val (.int v59), .val (.int v60), .val (.int v61), .val (.int v62), .val (.int v63)] [(.int (2 : Int32)), (.ref (n0 + ob19))])) rfl rfl (hb hby at_562) _ ?_
            show Steps p.tables e below (T0.setTop (mkF m 563 #[.val (.int i0), .val (.int i1), .val (.int i2), .val (.int i3), .val (.int i4), .val (.int i5), .val (.int i6), .val (.int i7), .val (.int i8), .val (.int i9), .val (.int i10), .val (.int i11), .val (.int i12), .val (.int i13), .val (.int i14), .val (.int i15), .val (.ref (n0 + ob16)), .val (.ref (n0 + ob17)), .val (.ref (n0 + ob18)), .val (.ref (n0 + ob19)), .val (.int i20), .val (.int i21), .val (.int i22), .val (.int i23), .val (.int i24), .val (.int i25), .val (.int i26), .val (.int t0), .val (.int v56), .val (.int v57), .val (.int v58), .val (.int v59), .val (.int v60), .val (.int v61), .val (.int v62), .val (.int v63)] [(.int x84)])) _
            refine XS.iload X0.here hx rfl (hb hby at_563) rfl ?_
            exact k
          by_cases hc85 : x84 = v61
          · rw [if_pos hc85] at hf
            obtain ⟨x86, hx86, hf⟩ := own_bind hf
            refine Gl.on (B := T0.setTop (mkF m 573 #[.val (.int i0), .val (.int i1), .val (.int i2), .val (.int i3), .val (.int i4), .val (.int i5), .val (.int i6), .val (.int i7), .val (.int i8), .val (.int i9), .val (.int i10), .val (.int i11), .val (.int i12), .val (.int i13), .val (.int i14), .val (.int i15), .val (.ref (n0 + ob16)), .val (.ref (n0 + ob17)), .val (.ref (n0 + ob18)), .val (.ref (n0 + ob19)), .val (.int i20), .val (.int i21), .val (.int i22), .val (.int i23), .val (.int i24), .val (.int i25), .val (.int i26), .val (.int t0), .val (.int v56), .val (.int v57), .val (.int v58), .val (.int v59), .val (.int v60), .val (.int v61), .val (.int v62), .val (.int v63)] [(.int (-1 : Int32)), (.int x86)])) (fun t k => ?_) ?_
            · show Steps p.tables e below (T0.setTop (mkF m 565 #[.val (.int i0), .val (.int i1), .val (.int i2), .val (.int i3), .val (.int i4), .val (.int i5), .val (.int i6), .val (.int i7), .val (.int i8), .val (.int i9), .val (.int i10), .val (.int i11), .val (.int i12), .val (.int i13), .val (.int i14), .val (.int i15), .val (.ref (n0 + ob16)), .val (.ref (n0 + ob17)), .val (.ref (n0 + ob18)), .val (.ref (n0 + ob19)), .val (.int i20), .val (.int i21), .val (.int i22), .val (.int i23), .val (.int i24), .val (.int i25), .val (.int i26), .val (.int t0), .val (.int v56), .val (.int v57), .val (.int v58), .val (.int v59), .val (.int v60), .val (.int v61), .val (.int v62), .val (.int v63)] [(.int v61), (.int x84)])) _
              refine XS.icmpNo X0.here hx rfl (hb hby at_565) rfl (teq hc85).2 ?_
              show Steps p.tables e below (T0.setTop (mkF m 568 #[.val (.int i0), .val (.int i1), .val (.int i2), .val (.int i3), .val (.int i4), .val (.int i5), .val (.int i6), .val (.int i7), .val (.int i8), .val (.int i9), .val (.int i10), .val (.int i11), .val (.int i12), .val (.int i13), .val (.int i14), .val (.int i15), .val (.ref (n0 + ob16)), .val (.ref (n0 + ob17)), .val (.ref (n0 + ob18)), .val (.ref (n0 + ob19)), .val (.int i20), .val (.int i21), .val (.int i22), .val (.int i23), .val (.int i24), .val (.int i25), .val (.int i26), .val (.int t0), .val (.int v56), .val (.int v57), .val (.int v58), .val (.int v59), .val (.int v60), .val (.int v61), .val (.int v62), .val (.int v63)] [])) _
              refine XS.aload X0.here hx rfl (hb hby at_568) rfl rfl ?_
              show Steps p.tables e below (T0.setTop (mkF m 570 #[.val (.int i0), .val (.int i1), .val (.int i2), .val (.int i3), .val (.int i4), .val (.int i5), .val (.int i6), .val (.int i7), .val (.int i8), .val (.int i9), .val (.int i10), .val (.int i11), .val (.int i12), .val (.int i13), .val (.int i14), .val (.int i15), .val (.ref (n0 + ob16)), .val (.ref (n0 + ob17)), .val (.ref (n0 + ob18)), .val (.ref (n0 + ob19)), .val (.int i20), .val (.int i21), .val (.int i22), .val (.int i23), .val (.int i24), .val (.int i25), .val (.int i26), .val (.int t0), .val (.int v56), .val (.int v57), .val (.int v58), .val (.int v59), .val (.int v60), .val (.int v61), .val (.int v62), .val (.int v63)] [(.ref (n0 + ob19))])) _
              refine XS.iconst X0.here hx rfl (hb hby at_570) ?_
              show Steps p.tables e below (T0.setTop (mkF m 571 #[.val (.int i0), .val (.int i1), .val (.int i2), .val (.int i3), .val (.int i4), .val (.int i5), .val (.int i6), .val (.int i7), .val (.int i8), .val (.int i9), .val (.int i10), .val (.int i11), .val (.int i12), .val (.int i13), .val (.int i14), .val (.int i15), .val (.ref (n0 + ob16)), .val (.ref (n0 + ob17)), .val (.ref (n0 + ob18)), .val (.ref (n0 + ob19)), .val (.int i20), .val (.int i21), .val (.int i22), .val (.int i23), .val (.int i24), .val (.int i25), .val (.int i26), .val (.int t0), .val (.int v56), .val (.int v57), .val (.int v58), .val (.int v59), .val (.int v60), .val (.int v61), .val (.int v62), .val (.int v63)] [(.int (3 : Int32)), (.ref (n0 + ob19))])) _
              refine ldW X0 hx hZ e0 O0 hx86 rfl (g := (mkF m 571 #[.val (.int i0), .val (.int i1), .val (.int i2), .val (.int i3), .val (.int i4), .val (.int i5), .val (.int i6), .val (.int i7), .val (.int i8), .val (.int i9), .val (.int i10), .val (.int i11), .val (.int i12), .val (.int i13), .val (.int i14), .val (.int i15), .val (.ref (n0 + ob16)), .val (.ref (n0 + ob17)), .val (.ref (n0 + ob18)), .val (.ref (n0 + ob19)), .val (.int i20), .val (.int i21), .val (.int i22), .val (.int i23), .val (.int i24), .val (.int i25), .val (.int i26), .val (.int t0), .val (.int v56), .val (.int v57), .val (.int v58), .val (.int v59), .val (.int v60), .val (.int v61), .val (.int v62), .val (.int v63)] [(.int (3 : Int32)), (.ref (n0 + ob19))])) rfl rfl (hb hby at_571) _ ?_
              show Steps p.tables e below (T0.setTop (mkF m 572 #[.val (.int i0), .val (.int i1), .val (.int i2), .val (.int i3), .val (.int i4), .val (.int i5), .val (.int i6), .val (.int i7), .val (.int i8), .val (.int i9), .val (.int i10), .val (.int i11), .val (.int i12), .val (.int i13), .val (.int i14), .val (.int i15), .val (.ref (n0 + ob16)), .val (.ref (n0 + ob17)), .val (.ref (n0 + ob18)), .val (.ref (n0 + ob19)), .val (.int i20), .val (.int i21), .val (.int i22), .val (.int i23), .val (.int i24), .val (.int i25), .val (.int i26), .val (.int t0), .val (.int v56), .val (.int v57), .val (.int v58), .val (.int v59), .val (.int v60), .val (.int v61), .val (.int v62), .val (.int v63)] [(.int x86)])) _
              refine XS.iconst X0.here hx rfl (hb hby at_572) ?_
              exact k
            by_cases hc87 : x86 = (-1 : Int32)
            · rw [if_pos hc87] at hf
              obtain ⟨x88, hx88, hf⟩ := own_bind hf
              refine Gl.on (B := T0.setTop (mkF m 581 #[.val (.int i0), .val (.int i1), .val (.int i2), .val (.int i3), .val (.int i4), .val (.int i5), .val (.int i6), .val (.int i7), .val (.int i8), .val (.int i9), .val (.int i10), .val (.int i11), .val (.int i12), .val (.int i13), .val (.int i14), .val (.int i15), .val (.ref (n0 + ob16)), .val (.ref (n0 + ob17)), .val (.ref (n0 + ob18)), .val (.ref (n0 + ob19)), .val (.int i20), .val (.int i21), .val (.int i22), .val (.int i23), .val (.int i24), .val (.int i25), .val (.int i26), .val (.int t0), .val (.int v56), .val (.int v57), .val (.int v58), .val (.int v59), .val (.int v60), .val (.int v61), .val (.int v62), .val (.int v63)] [(.int (-1 : Int32)), (.int x88)])) (fun t k => ?_) ?_
              · show Steps p.tables e below (T0.setTop (mkF m 573 #[.val (.int i0), .val (.int i1), .val (.int i2), .val (.int i3), .val (.int i4), .val (.int i5), .val (.int i6), .val (.int i7), .val (.int i8), .val (.int i9), .val (.int i10), .val (.int i11), .val (.int i12), .val (.int i13), .val (.int i14), .val (.int i15), .val (.ref (n0 + ob16)), .val (.ref (n0 + ob17)), .val (.ref (n0 + ob18)), .val (.ref (n0 + ob19)), .val (.int i20), .val (.int i21), .val (.int i22), .val (.int i23), .val (.int i24), .val (.int i25), .val (.int i26), .val (.int t0), .val (.int v56), .val (.int v57), .val (.int v58), .val (.int v59), .val (.int v60), .val (.int v61), .val (.int v62), .val (.int v63)] [(.int (-1 : Int32)), (.int x86)])) _
                refine XS.icmpNo X0.here hx rfl (hb hby at_573) rfl (teq hc87).2 ?_
                show Steps p.tables e below (T0.setTop (mkF m 576 #[.val (.int i0), .val (.int i1), .val (.int i2), .val (.int i3), .val (.int i4), .val (.int i5), .val (.int i6), .val (.int i7), .val (.int i8), .val (.int i9), .val (.int i10), .val (.int i11), .val (.int i12), .val (.int i13), .val (.int i14), .val (.int i15), .val (.ref (n0 + ob16)), .val (.ref (n0 + ob17)), .val (.ref (n0 + ob18)), .val (.ref (n0 + ob19)), .val (.int i20), .val (.int i21), .val (.int i22), .val (.int i23), .val (.int i24), .val (.int i25), .val (.int i26), .val (.int t0), .val (.int v56), .val (.int v57), .val (.int v58), .val (.int v59), .val (.int v60), .val (.int v61), .val (.int v62), .val (.int v63)] [])) _
                refine XS.aload X0.here hx rfl (hb hby at_576) rfl rfl ?_
                show Steps p.tables e below (T0.setTop (mkF m 578 #[.val (.int i0), .val (.int i1), .val (.int i2), .val (.int i3), .val (.int i4), .val (.int i5), .val (.int i6), .val (.int i7), .val (.int i8), .val (.int i9), .val (.int i10), .val (.int i11), .val (.int i12), .val (.int i13), .val (.int i14), .val (.int i15), .val (.ref (n0 + ob16)), .val (.ref (n0 + ob17)), .val (.ref (n0 + ob18)), .val (.ref (n0 + ob19)), .val (.int i20), .val (.int i21), .val (.int i22), .val (.int i23), .val (.int i24), .val (.int i25), .val (.int i26), .val (.int t0), .val (.int v56), .val (.int v57), .val (.int v58), .val (.int v59), .val (.int v60), .val (.int v61), .val (.int v62), .val (.int v63)] [(.ref (n0 + ob19))])) _
                refine XS.iconst X0.here hx rfl (hb hby at_578) ?_
                show Steps p.tables e below (T0.setTop (mkF m 579 #[.val (.int i0), .val (.int i1), .val (.int i2), .val (.int i3), .val (.int i4), .val (.int i5), .val (.int i6), .val (.int i7), .val (.int i8), .val (.int i9), .val (.int i10), .val (.int i11), .val (.int i12), .val (.int i13), .val (.int i14), .val (.int i15), .val (.ref (n0 + ob16)), .val (.ref (n0 + ob17)), .val (.ref (n0 + ob18)), .val (.ref (n0 + ob19)), .val (.int i20), .val (.int i21), .val (.int i22), .val (.int i23), .val (.int i24), .val (.int i25), .val (.int i26), .val (.int t0), .val (.int v56), .val (.int v57), .val (.int v58), .val (.int v59), .val (.int v60), .val (.int v61), .val (.int v62), .val (.int v63)] [(.int (4 : Int32)), (.ref (n0 + ob19))])) _
                refine ldW X0 hx hZ e0 O0 hx88 rfl (g := (mkF m 579 #[.val (.int i0), .val (.int i1), .val (.int i2), .val (.int i3), .val (.int i4), .val (.int i5), .val (.int i6), .val (.int i7), .val (.int i8), .val (.int i9), .val (.int i10), .val (.int i11), .val (.int i12), .val (.int i13), .val (.int i14), .val (.int i15), .val (.ref (n0 + ob16)), .val (.ref (n0 + ob17)), .val (.ref (n0 + ob18)), .val (.ref (n0 + ob19)), .val (.int i20), .val (.int i21), .val (.int i22), .val (.int i23), .val (.int i24), .val (.int i25), .val (.int i26), .val (.int t0), .val (.int v56), .val (.int v57), .val (.int v58), .val (.int v59), .val (.int v60), .val (.int v61), .val (.int v62), .val (.int v63)] [(.int (4 : Int32)), (.ref (n0 + ob19))])) rfl rfl (hb hby at_579) _ ?_
                show Steps p.tables e below (T0.setTop (mkF m 580 #[.val (.int i0), .val (.int i1), .val (.int i2), .val (.int i3), .val (.int i4), .val (.int i5), .val (.int i6), .val (.int i7), .val (.int i8), .val (.int i9), .val (.int i10), .val (.int i11), .val (.int i12), .val (.int i13), .val (.int i14), .val (.int i15), .val (.ref (n0 + ob16)), .val (.ref (n0 + ob17)), .val (.ref (n0 + ob18)), .val (.ref (n0 + ob19)), .val (.int i20), .val (.int i21), .val (.int i22), .val (.int i23), .val (.int i24), .val (.int i25), .val (.int i26), .val (.int t0), .val (.int v56), .val (.int v57), .val (.int v58), .val (.int v59), .val (.int v60), .val (.int v61), .val (.int v62), .val (.int v63)] [(.int x88)])) _
                refine XS.iconst X0.here hx rfl (hb hby at_580) ?_
                exact k
              by_cases hc89 : x88 = (-1 : Int32)
              · rw [if_pos hc89] at hf
                obtain ⟨x90, hx90, hf⟩ := own_bind hf
                refine Gl.on (B := T0.setTop (mkF m 589 #[.val (.int i0), .val (.int i1), .val (.int i2), .val (.int i3), .val (.int i4), .val (.int i5), .val (.int i6), .val (.int i7), .val (.int i8), .val (.int i9), .val (.int i10), .val (.int i11), .val (.int i12), .val (.int i13), .val (.int i14), .val (.int i15), .val (.ref (n0 + ob16)), .val (.ref (n0 + ob17)), .val (.ref (n0 + ob18)), .val (.ref (n0 + ob19)), .val (.int i20), .val (.int i21), .val (.int i22), .val (.int i23), .val (.int i24), .val (.int i25), .val (.int i26), .val (.int t0), .val (.int v56), .val (.int v57), .val (.int v58), .val (.int v59), .val (.int v60), .val (.int v61), .val (.int v62), .val (.int v63)] [(.int (-1 : Int32)), (.int x90)])) (fun t k => ?_) ?_
                · show Steps p.tables e below (T0.setTop (mkF m 581 #[.val (.int i0), .val (.int i1), .val (.int i2), .val (.int i3), .val (.int i4), .val (.int i5), .val (.int i6), .val (.int i7), .val (.int i8), .val (.int i9), .val (.int i10), .val (.int i11), .val (.int i12), .val (.int i13), .val (.int i14), .val (.int i15), .val (.ref (n0 + ob16)), .val (.ref (n0 + ob17)), .val (.ref (n0 + ob18)), .val (.ref (n0 + ob19)), .val (.int i20), .val (.int i21), .val (.int i22), .val (.int i23), .val (.int i24), .val (.int i25), .val (.int i26), .val (.int t0), .val (.int v56), .val (.int v57), .val (.int v58), .val (.int v59), .val (.int v60), .val (.int v61), .val (.int v62), .val (.int v63)] [(.int (-1 : Int32)), (.int x88)])) _
                  refine XS.icmpNo X0.here hx rfl (hb hby at_581) rfl (teq hc89).2 ?_
                  show Steps p.tables e below (T0.setTop (mkF m 584 #[.val (.int i0), .val (.int i1), .val (.int i2), .val (.int i3), .val (.int i4), .val (.int i5), .val (.int i6), .val (.int i7), .val (.int i8), .val (.int i9), .val (.int i10), .val (.int i11), .val (.int i12), .val (.int i13), .val (.int i14), .val (.int i15), .val (.ref (n0 + ob16)), .val (.ref (n0 + ob17)), .val (.ref (n0 + ob18)), .val (.ref (n0 + ob19)), .val (.int i20), .val (.int i21), .val (.int i22), .val (.int i23), .val (.int i24), .val (.int i25), .val (.int i26), .val (.int t0), .val (.int v56), .val (.int v57), .val (.int v58), .val (.int v59), .val (.int v60), .val (.int v61), .val (.int v62), .val (.int v63)] [])) _
                  refine XS.aload X0.here hx rfl (hb hby at_584) rfl rfl ?_
                  show Steps p.tables e below (T0.setTop (mkF m 586 #[.val (.int i0), .val (.int i1), .val (.int i2), .val (.int i3), .val (.int i4), .val (.int i5), .val (.int i6), .val (.int i7), .val (.int i8), .val (.int i9), .val (.int i10), .val (.int i11), .val (.int i12), .val (.int i13), .val (.int i14), .val (.int i15), .val (.ref (n0 + ob16)), .val (.ref (n0 + ob17)), .val (.ref (n0 + ob18)), .val (.ref (n0 + ob19)), .val (.int i20), .val (.int i21), .val (.int i22), .val (.int i23), .val (.int i24), .val (.int i25), .val (.int i26), .val (.int t0), .val (.int v56), .val (.int v57), .val (.int v58), .val (.int v59), .val (.int v60), .val (.int v61), .val (.int v62), .val (.int v63)] [(.ref (n0 + ob19))])) _
                  refine XS.iconst X0.here hx rfl (hb hby at_586) ?_
                  show Steps p.tables e below (T0.setTop (mkF m 587 #[.val (.int i0), .val (.int i1), .val (.int i2), .val (.int i3), .val (.int i4), .val (.int i5), .val (.int i6), .val (.int i7), .val (.int i8), .val (.int i9), .val (.int i10), .val (.int i11), .val (.int i12), .val (.int i13), .val (.int i14), .val (.int i15), .val (.ref (n0 + ob16)), .val (.ref (n0 + ob17)), .val (.ref (n0 + ob18)), .val (.ref (n0 + ob19)), .val (.int i20), .val (.int i21), .val (.int i22), .val (.int i23), .val (.int i24), .val (.int i25), .val (.int i26), .val (.int t0), .val (.int v56), .val (.int v57), .val (.int v58), .val (.int v59), .val (.int v60), .val (.int v61), .val (.int v62), .val (.int v63)] [(.int (5 : Int32)), (.ref (n0 + ob19))])) _
                  refine ldW X0 hx hZ e0 O0 hx90 rfl (g := (mkF m 587 #[.val (.int i0), .val (.int i1), .val (.int i2), .val (.int i3), .val (.int i4), .val (.int i5), .val (.int i6), .val (.int i7), .val (.int i8), .val (.int i9), .val (.int i10), .val (.int i11), .val (.int i12), .val (.int i13), .val (.int i14), .val (.int i15), .val (.ref (n0 + ob16)), .val (.ref (n0 + ob17)), .val (.ref (n0 + ob18)), .val (.ref (n0 + ob19)), .val (.int i20), .val (.int i21), .val (.int i22), .val (.int i23), .val (.int i24), .val (.int i25), .val (.int i26), .val (.int t0), .val (.int v56), .val (.int v57), .val (.int v58), .val (.int v59), .val (.int v60), .val (.int v61), .val (.int v62), .val (.int v63)] [(.int (5 : Int32)), (.ref (n0 + ob19))])) rfl rfl (hb hby at_587) _ ?_
                  show Steps p.tables e below (T0.setTop (mkF m 588 #[.val (.int i0), .val (.int i1), .val (.int i2), .val (.int i3), .val (.int i4), .val (.int i5), .val (.int i6), .val (.int i7), .val (.int i8), .val (.int i9), .val (.int i10), .val (.int i11), .val (.int i12), .val (.int i13), .val (.int i14), .val (.int i15), .val (.ref (n0 + ob16)), .val (.ref (n0 + ob17)), .val (.ref (n0 + ob18)), .val (.ref (n0 + ob19)), .val (.int i20), .val (.int i21), .val (.int i22), .val (.int i23), .val (.int i24), .val (.int i25), .val (.int i26), .val (.int t0), .val (.int v56), .val (.int v57), .val (.int v58), .val (.int v59), .val (.int v60), .val (.int v61), .val (.int v62), .val (.int v63)] [(.int x90)])) _
                  refine XS.iconst X0.here hx rfl (hb hby at_588) ?_
                  exact k
                by_cases hc91 : x90 = (-1 : Int32)
                · rw [if_pos hc91] at hf
                  obtain ⟨x92, hx92, hf⟩ := own_bind hf
                  refine Gl.on (B := T0.setTop (mkF m 598 #[.val (.int i0), .val (.int i1), .val (.int i2), .val (.int i3), .val (.int i4), .val (.int i5), .val (.int i6), .val (.int i7), .val (.int i8), .val (.int i9), .val (.int i10), .val (.int i11), .val (.int i12), .val (.int i13), .val (.int i14), .val (.int i15), .val (.ref (n0 + ob16)), .val (.ref (n0 + ob17)), .val (.ref (n0 + ob18)), .val (.ref (n0 + ob19)), .val (.int i20), .val (.int i21), .val (.int i22), .val (.int i23), .val (.int i24), .val (.int i25), .val (.int i26), .val (.int t0), .val (.int v56), .val (.int v57), .val (.int v58), .val (.int v59), .val (.int v60), .val (.int v61), .val (.int v62), .val (.int v63)] [(.int (-1 : Int32)), (.int x92)])) (fun t k => ?_) ?_
                  · show Steps p.tables e below (T0.setTop (mkF m 589 #[.val (.int i0), .val (.int i1), .val (.int i2), .val (.int i3), .val (.int i4), .val (.int i5), .val (.int i6), .val (.int i7), .val (.int i8), .val (.int i9), .val (.int i10), .val (.int i11), .val (.int i12), .val (.int i13), .val (.int i14), .val (.int i15), .val (.ref (n0 + ob16)), .val (.ref (n0 + ob17)), .val (.ref (n0 + ob18)), .val (.ref (n0 + ob19)), .val (.int i20), .val (.int i21), .val (.int i22), .val (.int i23), .val (.int i24), .val (.int i25), .val (.int i26), .val (.int t0), .val (.int v56), .val (.int v57), .val (.int v58), .val (.int v59), .val (.int v60), .val (.int v61), .val (.int v62), .val (.int v63)] [(.int (-1 : Int32)), (.int x90)])) _
                    refine XS.icmpNo X0.here hx rfl (hb hby at_589) rfl (teq hc91).2 ?_
                    show Steps p.tables e below (T0.setTop (mkF m 592 #[.val (.int i0), .val (.int i1), .val (.int i2), .val (.int i3), .val (.int i4), .val (.int i5), .val (.int i6), .val (.int i7), .val (.int i8), .val (.int i9), .val (.int i10), .val (.int i11), .val (.int i12), .val (.int i13), .val (.int i14), .val (.int i15), .val (.ref (n0 + ob16)), .val (.ref (n0 + ob17)), .val (.ref (n0 + ob18)), .val (.ref (n0 + ob19)), .val (.int i20), .val (.int i21), .val (.int i22), .val (.int i23), .val (.int i24), .val (.int i25), .val (.int i26), .val (.int t0), .val (.int v56), .val (.int v57), .val (.int v58), .val (.int v59), .val (.int v60), .val (.int v61), .val (.int v62), .val (.int v63)] [])) _
                    refine XS.aload X0.here hx rfl (hb hby at_592) rfl rfl ?_
                    show Steps p.tables e below (T0.setTop (mkF m 594 #[.val (.int i0), .val (.int i1), .val (.int i2), .val (.int i3), .val (.int i4), .val (.int i5), .val (.int i6), .val (.int i7), .val (.int i8), .val (.int i9), .val (.int i10), .val (.int i11), .val (.int i12), .val (.int i13), .val (.int i14), .val (.int i15), .val (.ref (n0 + ob16)), .val (.ref (n0 + ob17)), .val (.ref (n0 + ob18)), .val (.ref (n0 + ob19)), .val (.int i20), .val (.int i21), .val (.int i22), .val (.int i23), .val (.int i24), .val (.int i25), .val (.int i26), .val (.int t0), .val (.int v56), .val (.int v57), .val (.int v58), .val (.int v59), .val (.int v60), .val (.int v61), .val (.int v62), .val (.int v63)] [(.ref (n0 + ob19))])) _
                    refine XS.bipush X0.here hx rfl (hb hby at_594) ?_
                    show Steps p.tables e below (T0.setTop (mkF m 596 #[.val (.int i0), .val (.int i1), .val (.int i2), .val (.int i3), .val (.int i4), .val (.int i5), .val (.int i6), .val (.int i7), .val (.int i8), .val (.int i9), .val (.int i10), .val (.int i11), .val (.int i12), .val (.int i13), .val (.int i14), .val (.int i15), .val (.ref (n0 + ob16)), .val (.ref (n0 + ob17)), .val (.ref (n0 + ob18)), .val (.ref (n0 + ob19)), .val (.int i20), .val (.int i21), .val (.int i22), .val (.int i23), .val (.int i24), .val (.int i25), .val (.int i26), .val (.int t0), .val (.int v56), .val (.int v57), .val (.int v58), .val (.int v59), .val (.int v60), .val (.int v61), .val (.int v62), .val (.int v63)] [(.int (6 : Int32)), (.ref (n0 + ob19))])) _
                    refine ldW X0 hx hZ e0 O0 hx92 rfl (g := (mkF m 596 #[.val (.int i0), .val (.int i1), .val (.int i2), .val (.int i3), .val (.int i4), .val (.int i5), .val (.int i6), .val (.int i7), .val (.int i8), .val (.int i9), .val (.int i10), .val (.int i11), .val (.int i12), .val (.int i13), .val (.int i14), .val (.int i15), .val (.ref (n0 + ob16)), .val (.ref (n0 + ob17)), .val (.ref (n0 + ob18)), .val (.ref (n0 + ob19)), .val (.int i20), .val (.int i21), .val (.int i22), .val (.int i23), .val (.int i24), .val (.int i25), .val (.int i26), .val (.int t0), .val (.int v56), .val (.int v57), .val (.int v58), .val (.int v59), .val (.int v60), .val (.int v61), .val (.int v62), .val (.int v63)] [(.int (6 : Int32)), (.ref (n0 + ob19))])) rfl rfl (hb hby at_596) _ ?_
                    show Steps p.tables e below (T0.setTop (mkF m 597 #[.val (.int i0), .val (.int i1), .val (.int i2), .val (.int i3), .val (.int i4), .val (.int i5), .val (.int i6), .val (.int i7), .val (.int i8), .val (.int i9), .val (.int i10), .val (.int i11), .val (.int i12), .val (.int i13), .val (.int i14), .val (.int i15), .val (.ref (n0 + ob16)), .val (.ref (n0 + ob17)), .val (.ref (n0 + ob18)), .val (.ref (n0 + ob19)), .val (.int i20), .val (.int i21), .val (.int i22), .val (.int i23), .val (.int i24), .val (.int i25), .val (.int i26), .val (.int t0), .val (.int v56), .val (.int v57), .val (.int v58), .val (.int v59), .val (.int v60), .val (.int v61), .val (.int v62), .val (.int v63)] [(.int x92)])) _
                    refine XS.iconst X0.here hx rfl (hb hby at_597) ?_
                    exact k
                  by_cases hc93 : x92 = (-1 : Int32)
                  · rw [if_pos hc93] at hf
                    refine Gl.on (B := T0.setTop (mkF m 606 #[.val (.int i0), .val (.int i1), .val (.int i2), .val (.int i3), .val (.int i4), .val (.int i5), .val (.int i6), .val (.int i7), .val (.int i8), .val (.int i9), .val (.int i10), .val (.int i11), .val (.int i12), .val (.int i13), .val (.int i14), .val (.int i15), .val (.ref (n0 + ob16)), .val (.ref (n0 + ob17)), .val (.ref (n0 + ob18)), .val (.ref (n0 + ob19)), .val (.int i20), .val (.int i21), .val (.int i22), .val (.int i23), .val (.int i24), .val (.int i25), .val (.int i26), .val (.int t0), .val (.int v56), .val (.int v57), .val (.int v58), .val (.int v59), .val (.int v60), .val (.int v61), .val (.int v62), .val (.int v63)] [(.int (1 : Int32))])) (fun t k => ?_) ?_
                    · show Steps p.tables e below (T0.setTop (mkF m 598 #[.val (.int i0), .val (.int i1), .val (.int i2), .val (.int i3), .val (.int i4), .val (.int i5), .val (.int i6), .val (.int i7), .val (.int i8), .val (.int i9), .val (.int i10), .val (.int i11), .val (.int i12), .val (.int i13), .val (.int i14), .val (.int i15), .val (.ref (n0 + ob16)), .val (.ref (n0 + ob17)), .val (.ref (n0 + ob18)), .val (.ref (n0 + ob19)), .val (.int i20), .val (.int i21), .val (.int i22), .val (.int i23), .val (.int i24), .val (.int i25), .val (.int i26), .val (.int t0), .val (.int v56), .val (.int v57), .val (.int v58), .val (.int v59), .val (.int v60), .val (.int v61), .val (.int v62), .val (.int v63)] [(.int (-1 : Int32)), (.int x92)])) _
                      refine XS.icmpNo X0.here hx rfl (hb hby at_598) rfl (teq hc93).2 ?_
                      show Steps p.tables e below (T0.setTop (mkF m 601 #[.val (.int i0), .val (.int i1), .val (.int i2), .val (.int i3), .val (.int i4), .val (.int i5), .val (.int i6), .val (.int i7), .val (.int i8), .val (.int i9), .val (.int i10), .val (.int i11), .val (.int i12), .val (.int i13), .val (.int i14), .val (.int i15), .val (.ref (n0 + ob16)), .val (.ref (n0 + ob17)), .val (.ref (n0 + ob18)), .val (.ref (n0 + ob19)), .val (.int i20), .val (.int i21), .val (.int i22), .val (.int i23), .val (.int i24), .val (.int i25), .val (.int i26), .val (.int t0), .val (.int v56), .val (.int v57), .val (.int v58), .val (.int v59), .val (.int v60), .val (.int v61), .val (.int v62), .val (.int v63)] [])) _
                      refine XS.iconst X0.here hx rfl (hb hby at_601) ?_
                      show Steps p.tables e below (T0.setTop (mkF m 602 #[.val (.int i0), .val (.int i1), .val (.int i2), .val (.int i3), .val (.int i4), .val (.int i5), .val (.int i6), .val (.int i7), .val (.int i8), .val (.int i9), .val (.int i10), .val (.int i11), .val (.int i12), .val (.int i13), .val (.int i14), .val (.int i15), .val (.ref (n0 + ob16)), .val (.ref (n0 + ob17)), .val (.ref (n0 + ob18)), .val (.ref (n0 + ob19)), .val (.int i20), .val (.int i21), .val (.int i22), .val (.int i23), .val (.int i24), .val (.int i25), .val (.int i26), .val (.int t0), .val (.int v56), .val (.int v57), .val (.int v58), .val (.int v59), .val (.int v60), .val (.int v61), .val (.int v62), .val (.int v63)] [(.int (1 : Int32))])) _
                      refine XS.goto X0.here hx rfl (pc0 := 602) (pc' := 606) rfl (hb hby at_602) (by decide) (by decide) ?_
                      exact k
                    obtain ⟨rfl, rfl⟩ := own_inj hf
                    exact Gl.outN X0 hx hlk (t := .boolean) hret (by simp) (hb hby at_606) ⟨rfl, N0, by rw [e0]; exact O0⟩ (by show _ ≤ 24; omega) (by show _ ≤ 192; omega)
                  · rw [if_neg hc93] at hf
                    refine Gl.on (B := T0.setTop (mkF m 606 #[.val (.int i0), .val (.int i1), .val (.int i2), .val (.int i3), .val (.int i4), .val (.int i5), .val (.int i6), .val (.int i7), .val (.int i8), .val (.int i9), .val (.int i10), .val (.int i11), .val (.int i12), .val (.int i13), .val (.int i14), .val (.int i15), .val (.ref (n0 + ob16)), .val (.ref (n0 + ob17)), .val (.ref (n0 + ob18)), .val (.ref (n0 + ob19)), .val (.int i20), .val (.int i21), .val (.int i22), .val (.int i23), .val (.int i24), .val (.int i25), .val (.int i26), .val (.int t0), .val (.int v56), .val (.int v57), .val (.int v58), .val (.int v59), .val (.int v60), .val (.int v61), .val (.int v62), .val (.int v63)] [(.int (0 : Int32))])) (fun t k => ?_) ?_
                    · show Steps p.tables e below (T0.setTop (mkF m 598 #[.val (.int i0), .val (.int i1), .val (.int i2), .val (.int i3), .val (.int i4), .val (.int i5), .val (.int i6), .val (.int i7), .val (.int i8), .val (.int i9), .val (.int i10), .val (.int i11), .val (.int i12), .val (.int i13), .val (.int i14), .val (.int i15), .val (.ref (n0 + ob16)), .val (.ref (n0 + ob17)), .val (.ref (n0 + ob18)), .val (.ref (n0 + ob19)), .val (.int i20), .val (.int i21), .val (.int i22), .val (.int i23), .val (.int i24), .val (.int i25), .val (.int i26), .val (.int t0), .val (.int v56), .val (.int v57), .val (.int v58), .val (.int v59), .val (.int v60), .val (.int v61), .val (.int v62), .val (.int v63)] [(.int (-1 : Int32)), (.int x92)])) _
                      refine XS.icmpYes X0.here hx rfl (pc0 := 598) (pc' := 605) rfl (hb hby at_598) rfl (feq hc93).2 (by decide) (by decide) ?_
                      show Steps p.tables e below (T0.setTop (mkF m 605 #[.val (.int i0), .val (.int i1), .val (.int i2), .val (.int i3), .val (.int i4), .val (.int i5), .val (.int i6), .val (.int i7), .val (.int i8), .val (.int i9), .val (.int i10), .val (.int i11), .val (.int i12), .val (.int i13), .val (.int i14), .val (.int i15), .val (.ref (n0 + ob16)), .val (.ref (n0 + ob17)), .val (.ref (n0 + ob18)), .val (.ref (n0 + ob19)), .val (.int i20), .val (.int i21), .val (.int i22), .val (.int i23), .val (.int i24), .val (.int i25), .val (.int i26), .val (.int t0), .val (.int v56), .val (.int v57), .val (.int v58), .val (.int v59), .val (.int v60), .val (.int v61), .val (.int v62), .val (.int v63)] [])) _
                      refine XS.iconst X0.here hx rfl (hb hby at_605) ?_
                      exact k
                    obtain ⟨rfl, rfl⟩ := own_inj hf
                    exact Gl.outN X0 hx hlk (t := .boolean) hret (by simp) (hb hby at_606) ⟨rfl, N0, by rw [e0]; exact O0⟩ (by show _ ≤ 24; omega) (by show _ ≤ 192; omega)
                · rw [if_neg hc91] at hf
                  refine Gl.on (B := T0.setTop (mkF m 606 #[.val (.int i0), .val (.int i1), .val (.int i2), .val (.int i3), .val (.int i4), .val (.int i5), .val (.int i6), .val (.int i7), .val (.int i8), .val (.int i9), .val (.int i10), .val (.int i11), .val (.int i12), .val (.int i13), .val (.int i14), .val (.int i15), .val (.ref (n0 + ob16)), .val (.ref (n0 + ob17)), .val (.ref (n0 + ob18)), .val (.ref (n0 + ob19)), .val (.int i20), .val (.int i21), .val (.int i22), .val (.int i23), .val (.int i24), .val (.int i25), .val (.int i26), .val (.int t0), .val (.int v56), .val (.int v57), .val (.int v58), .val (.int v59), .val (.int v60), .val (.int v61), .val (.int v62), .val (.int v63)] [(.int (0 : Int32))])) (fun t k => ?_) ?_
                  · show Steps p.tables e below (T0.setTop (mkF m 589 #[.val (.int i0), .val (.int i1), .val (.int i2), .val (.int i3), .val (.int i4), .val (.int i5), .val (.int i6), .val (.int i7), .val (.int i8), .val (.int i9), .val (.int i10), .val (.int i11), .val (.int i12), .val (.int i13), .val (.int i14), .val (.int i15), .val (.ref (n0 + ob16)), .val (.ref (n0 + ob17)), .val (.ref (n0 + ob18)), .val (.ref (n0 + ob19)), .val (.int i20), .val (.int i21), .val (.int i22), .val (.int i23), .val (.int i24), .val (.int i25), .val (.int i26), .val (.int t0), .val (.int v56), .val (.int v57), .val (.int v58), .val (.int v59), .val (.int v60), .val (.int v61), .val (.int v62), .val (.int v63)] [(.int (-1 : Int32)), (.int x90)])) _
                    refine XS.icmpYes X0.here hx rfl (pc0 := 589) (pc' := 605) rfl (hb hby at_589) rfl (feq hc91).2 (by decide) (by decide) ?_
                    show Steps p.tables e below (T0.setTop (mkF m 605 #[.val (.int i0), .val (.int i1), .val (.int i2), .val (.int i3), .val (.int i4), .val (.int i5), .val (.int i6), .val (.int i7), .val (.int i8), .val (.int i9), .val (.int i10), .val (.int i11), .val (.int i12), .val (.int i13), .val (.int i14), .val (.int i15), .val (.ref (n0 + ob16)), .val (.ref (n0 + ob17)), .val (.ref (n0 + ob18)), .val (.ref (n0 + ob19)), .val (.int i20), .val (.int i21), .val (.int i22), .val (.int i23), .val (.int i24), .val (.int i25), .val (.int i26), .val (.int t0), .val (.int v56), .val (.int v57), .val (.int v58), .val (.int v59), .val (.int v60), .val (.int v61), .val (.int v62), .val (.int v63)] [])) _
                    refine XS.iconst X0.here hx rfl (hb hby at_605) ?_
                    exact k
                  obtain ⟨rfl, rfl⟩ := own_inj hf
                  exact Gl.outN X0 hx hlk (t := .boolean) hret (by simp) (hb hby at_606) ⟨rfl, N0, by rw [e0]; exact O0⟩ (by show _ ≤ 24; omega) (by show _ ≤ 192; omega)
              · rw [if_neg hc89] at hf
                refine Gl.on (B := T0.setTop (mkF m 606 #[.val (.int i0), .val (.int i1), .val (.int i2), .val (.int i3), .val (.int i4), .val (.int i5), .val (.int i6), .val (.int i7), .val (.int i8), .val (.int i9), .val (.int i10), .val (.int i11), .val (.int i12), .val (.int i13), .val (.int i14), .val (.int i15), .val (.ref (n0 + ob16)), .val (.ref (n0 + ob17)), .val (.ref (n0 + ob18)), .val (.ref (n0 + ob19)), .val (.int i20), .val (.int i21), .val (.int i22), .val (.int i23), .val (.int i24), .val (.int i25), .val (.int i26), .val (.int t0), .val (.int v56), .val (.int v57), .val (.int v58), .val (.int v59), .val (.int v60), .val (.int v61), .val (.int v62), .val (.int v63)] [(.int (0 : Int32))])) (fun t k => ?_) ?_
                · show Steps p.tables e below (T0.setTop (mkF m 581 #[.val (.int i0), .val (.int i1), .val (.int i2), .val (.int i3), .val (.int i4), .val (.int i5), .val (.int i6), .val (.int i7), .val (.int i8), .val (.int i9), .val (.int i10), .val (.int i11), .val (.int i12), .val (.int i13), .val (.int i14), .val (.int i15), .val (.ref (n0 + ob16)), .val (.ref (n0 + ob17)), .val (.ref (n0 + ob18)), .val (.ref (n0 + ob19)), .val (.int i20), .val (.int i21), .val (.int i22), .val (.int i23), .val (.int i24), .val (.int i25), .val (.int i26), .val (.int t0), .val (.int v56), .val (.int v57), .val (.int v58), .val (.int v59), .val (.int v60), .val (.int v61), .val (.int v62), .val (.int v63)] [(.int (-1 : Int32)), (.int x88)])) _
                  refine XS.icmpYes X0.here hx rfl (pc0 := 581) (pc' := 605) rfl (hb hby at_581) rfl (feq hc89).2 (by decide) (by decide) ?_
                  show Steps p.tables e below (T0.setTop (mkF m 605 #[.val (.int i0), .val (.int i1), .val (.int i2), .val (.int i3), .val (.int i4), .val (.int i5), .val (.int i6), .val (.int i7), .val (.int i8), .val (.int i9), .val (.int i10), .val (.int i11), .val (.int i12), .val (.int i13), .val (.int i14), .val (.int i15), .val (.ref (n0 + ob16)), .val (.ref (n0 + ob17)), .val (.ref (n0 + ob18)), .val (.ref (n0 + ob19)), .val (.int i20), .val (.int i21), .val (.int i22), .val (.int i23), .val (.int i24), .val (.int i25), .val (.int i26), .val (.int t0), .val (.int v56), .val (.int v57), .val (.int v58), .val (.int v59), .val (.int v60), .val (.int v61), .val (.int v62), .val (.int v63)] [])) _
                  refine XS.iconst X0.here hx rfl (hb hby at_605) ?_
                  exact k
                obtain ⟨rfl, rfl⟩ := own_inj hf
                exact Gl.outN X0 hx hlk (t := .boolean) hret (by simp) (hb hby at_606) ⟨rfl, N0, by rw [e0]; exact O0⟩ (by show _ ≤ 24; omega) (by show _ ≤ 192; omega)
            · rw [if_neg hc87] at hf
              refine Gl.on (B := T0.setTop (mkF m 606 #[.val (.int i0), .val (.int i1), .val (.int i2), .val (.int i3), .val (.int i4), .val (.int i5), .val (.int i6), .val (.int i7), .val (.int i8), .val (.int i9), .val (.int i10), .val (.int i11), .val (.int i12), .val (.int i13), .val (.int i14), .val (.int i15), .val (.ref (n0 + ob16)), .val (.ref (n0 + ob17)), .val (.ref (n0 + ob18)), .val (.ref (n0 + ob19)), .val (.int i20), .val (.int i21), .val (.int i22), .val (.int i23), .val (.int i24), .val (.int i25), .val (.int i26), .val (.int t0), .val (.int v56), .val (.int v57), .val (.int v58), .val (.int v59), .val (.int v60), .val (.int v61), .val (.int v62), .val (.int v63)] [(.int (0 : Int32))])) (fun t k => ?_) ?_
              · show Steps p.tables e below (T0.setTop (mkF m 573 #[.val (.int i0), .val (.int i1), .val (.int i2), .val (.int i3), .val (.int i4), .val (.int i5), .val (.int i6), .val (.int i7), .val (.int i8), .val (.int i9), .val (.int i10), .val (.int i11), .val (.int i12), .val (.int i13), .val (.int i14), .val (.int i15), .val (.ref (n0 + ob16)), .val (.ref (n0 + ob17)), .val (.ref (n0 + ob18)), .val (.ref (n0 + ob19)), .val (.int i20), .val (.int i21), .val (.int i22), .val (.int i23), .val (.int i24), .val (.int i25), .val (.int i26), .val (.int t0), .val (.int v56), .val (.int v57), .val (.int v58), .val (.int v59), .val (.int v60), .val (.int v61), .val (.int v62), .val (.int v63)] [(.int (-1 : Int32)), (.int x86)])) _
                refine XS.icmpYes X0.here hx rfl (pc0 := 573) (pc' := 605) rfl (hb hby at_573) rfl (feq hc87).2 (by decide) (by decide) ?_
                show Steps p.tables e below (T0.setTop (mkF m 605 #[.val (.int i0), .val (.int i1), .val (.int i2), .val (.int i3), .val (.int i4), .val (.int i5), .val (.int i6), .val (.int i7), .val (.int i8), .val (.int i9), .val (.int i10), .val (.int i11), .val (.int i12), .val (.int i13), .val (.int i14), .val (.int i15), .val (.ref (n0 + ob16)), .val (.ref (n0 + ob17)), .val (.ref (n0 + ob18)), .val (.ref (n0 + ob19)), .val (.int i20), .val (.int i21), .val (.int i22), .val (.int i23), .val (.int i24), .val (.int i25), .val (.int i26), .val (.int t0), .val (.int v56), .val (.int v57), .val (.int v58), .val (.int v59), .val (.int v60), .val (.int v61), .val (.int v62), .val (.int v63)] [])) _
                refine XS.iconst X0.here hx rfl (hb hby at_605) ?_
                exact k
              obtain ⟨rfl, rfl⟩ := own_inj hf
              exact Gl.outN X0 hx hlk (t := .boolean) hret (by simp) (hb hby at_606) ⟨rfl, N0, by rw [e0]; exact O0⟩ (by show _ ≤ 24; omega) (by show _ ≤ 192; omega)
          · rw [if_neg hc85] at hf
            refine Gl.on (B := T0.setTop (mkF m 606 #[.val (.int i0), .val (.int i1), .val (.int i2), .val (.int i3), .val (.int i4), .val (.int i5), .val (.int i6), .val (.int i7), .val (.int i8), .val (.int i9), .val (.int i10), .val (.int i11), .val (.int i12), .val (.int i13), .val (.int i14), .val (.int i15), .val (.ref (n0 + ob16)), .val (.ref (n0 + ob17)), .val (.ref (n0 + ob18)), .val (.ref (n0 + ob19)), .val (.int i20), .val (.int i21), .val (.int i22), .val (.int i23), .val (.int i24), .val (.int i25), .val (.int i26), .val (.int t0), .val (.int v56), .val (.int v57), .val (.int v58), .val (.int v59), .val (.int v60), .val (.int v61), .val (.int v62), .val (.int v63)] [(.int (0 : Int32))])) (fun t k => ?_) ?_
            · show Steps p.tables e below (T0.setTop (mkF m 565 #[.val (.int i0), .val (.int i1), .val (.int i2), .val (.int i3), .val (.int i4), .val (.int i5), .val (.int i6), .val (.int i7), .val (.int i8), .val (.int i9), .val (.int i10), .val (.int i11), .val (.int i12), .val (.int i13), .val (.int i14), .val (.int i15), .val (.ref (n0 + ob16)), .val (.ref (n0 + ob17)), .val (.ref (n0 + ob18)), .val (.ref (n0 + ob19)), .val (.int i20), .val (.int i21), .val (.int i22), .val (.int i23), .val (.int i24), .val (.int i25), .val (.int i26), .val (.int t0), .val (.int v56), .val (.int v57), .val (.int v58), .val (.int v59), .val (.int v60), .val (.int v61), .val (.int v62), .val (.int v63)] [(.int v61), (.int x84)])) _
              refine XS.icmpYes X0.here hx rfl (pc0 := 565) (pc' := 605) rfl (hb hby at_565) rfl (feq hc85).2 (by decide) (by decide) ?_
              show Steps p.tables e below (T0.setTop (mkF m 605 #[.val (.int i0), .val (.int i1), .val (.int i2), .val (.int i3), .val (.int i4), .val (.int i5), .val (.int i6), .val (.int i7), .val (.int i8), .val (.int i9), .val (.int i10), .val (.int i11), .val (.int i12), .val (.int i13), .val (.int i14), .val (.int i15), .val (.ref (n0 + ob16)), .val (.ref (n0 + ob17)), .val (.ref (n0 + ob18)), .val (.ref (n0 + ob19)), .val (.int i20), .val (.int i21), .val (.int i22), .val (.int i23), .val (.int i24), .val (.int i25), .val (.int i26), .val (.int t0), .val (.int v56), .val (.int v57), .val (.int v58), .val (.int v59), .val (.int v60), .val (.int v61), .val (.int v62), .val (.int v63)] [])) _
              refine XS.iconst X0.here hx rfl (hb hby at_605) ?_
              exact k
            obtain ⟨rfl, rfl⟩ := own_inj hf
            exact Gl.outN X0 hx hlk (t := .boolean) hret (by simp) (hb hby at_606) ⟨rfl, N0, by rw [e0]; exact O0⟩ (by show _ ≤ 24; omega) (by show _ ≤ 192; omega)
        · rw [if_neg hc83] at hf
          refine Gl.on (B := T0.setTop (mkF m 606 #[.val (.int i0), .val (.int i1), .val (.int i2), .val (.int i3), .val (.int i4), .val (.int i5), .val (.int i6), .val (.int i7), .val (.int i8), .val (.int i9), .val (.int i10), .val (.int i11), .val (.int i12), .val (.int i13), .val (.int i14), .val (.int i15), .val (.ref (n0 + ob16)), .val (.ref (n0 + ob17)), .val (.ref (n0 + ob18)), .val (.ref (n0 + ob19)), .val (.int i20), .val (.int i21), .val (.int i22), .val (.int i23), .val (.int i24), .val (.int i25), .val (.int i26), .val (.int t0), .val (.int v56), .val (.int v57), .val (.int v58), .val (.int v59), .val (.int v60), .val (.int v61), .val (.int v62), .val (.int v63)] [(.int (0 : Int32))])) (fun t k => ?_) ?_
          · show Steps p.tables e below (T0.setTop (mkF m 556 #[.val (.int i0), .val (.int i1), .val (.int i2), .val (.int i3), .val (.int i4), .val (.int i5), .val (.int i6), .val (.int i7), .val (.int i8), .val (.int i9), .val (.int i10), .val (.int i11), .val (.int i12), .val (.int i13), .val (.int i14), .val (.int i15), .val (.ref (n0 + ob16)), .val (.ref (n0 + ob17)), .val (.ref (n0 + ob18)), .val (.ref (n0 + ob19)), .val (.int i20), .val (.int i21), .val (.int i22), .val (.int i23), .val (.int i24), .val (.int i25), .val (.int i26), .val (.int t0), .val (.int v56), .val (.int v57), .val (.int v58), .val (.int v59), .val (.int v60), .val (.int v61), .val (.int v62), .val (.int v63)] [(.int v59), (.int x82)])) _
            refine XS.icmpYes X0.here hx rfl (pc0 := 556) (pc' := 605) rfl (hb hby at_556) rfl (feq hc83).2 (by decide) (by decide) ?_
            show Steps p.tables e below (T0.setTop (mkF m 605 #[.val (.int i0), .val (.int i1), .val (.int i2), .val (.int i3), .val (.int i4), .val (.int i5), .val (.int i6), .val (.int i7), .val (.int i8), .val (.int i9), .val (.int i10), .val (.int i11), .val (.int i12), .val (.int i13), .val (.int i14), .val (.int i15), .val (.ref (n0 + ob16)), .val (.ref (n0 + ob17)), .val (.ref (n0 + ob18)), .val (.ref (n0 + ob19)), .val (.int i20), .val (.int i21), .val (.int i22), .val (.int i23), .val (.int i24), .val (.int i25), .val (.int i26), .val (.int t0), .val (.int v56), .val (.int v57), .val (.int v58), .val (.int v59), .val (.int v60), .val (.int v61), .val (.int v62), .val (.int v63)] [])) _
            refine XS.iconst X0.here hx rfl (hb hby at_605) ?_
            exact k
          obtain ⟨rfl, rfl⟩ := own_inj hf
          exact Gl.outN X0 hx hlk (t := .boolean) hret (by simp) (hb hby at_606) ⟨rfl, N0, by rw [e0]; exact O0⟩ (by show _ ≤ 24; omega) (by show _ ≤ 192; omega)
      · rw [if_neg hc81] at hf
        refine Gl.on (B := T0.setTop (mkF m 606 #[.val (.int i0), .val (.int i1), .val (.int i2), .val (.int i3), .val (.int i4), .val (.int i5), .val (.int i6), .val (.int i7), .val (.int i8), .val (.int i9), .val (.int i10), .val (.int i11), .val (.int i12), .val (.int i13), .val (.int i14), .val (.int i15), .val (.ref (n0 + ob16)), .val (.ref (n0 + ob17)), .val (.ref (n0 + ob18)), .val (.ref (n0 + ob19)), .val (.int i20), .val (.int i21), .val (.int i22), .val (.int i23), .val (.int i24), .val (.int i25), .val (.int i26), .val (.int t0), .val (.int v56), .val (.int v57), .val (.int v58), .val (.int v59), .val (.int v60), .val (.int v61), .val (.int v62), .val (.int v63)] [(.int (0 : Int32))])) (fun t k => ?_) ?_
        · show Steps p.tables e below (T0.setTop (mkF m 547 #[.val (.int i0), .val (.int i1), .val (.int i2), .val (.int i3), .val (.int i4), .val (.int i5), .val (.int i6), .val (.int i7), .val (.int i8), .val (.int i9), .val (.int i10), .val (.int i11), .val (.int i12), .val (.int i13), .val (.int i14), .val (.int i15), .val (.ref (n0 + ob16)), .val (.ref (n0 + ob17)), .val (.ref (n0 + ob18)), .val (.ref (n0 + ob19)), .val (.int i20), .val (.int i21), .val (.int i22), .val (.int i23), .val (.int i24), .val (.int i25), .val (.int i26), .val (.int t0), .val (.int v56), .val (.int v57), .val (.int v58), .val (.int v59), .val (.int v60), .val (.int v61), .val (.int v62), .val (.int v63)] [(.int v58), (.int x80)])) _
          refine XS.icmpYes X0.here hx rfl (pc0 := 547) (pc' := 605) rfl (hb hby at_547) rfl (feq hc81).2 (by decide) (by decide) ?_
          show Steps p.tables e below (T0.setTop (mkF m 605 #[.val (.int i0), .val (.int i1), .val (.int i2), .val (.int i3), .val (.int i4), .val (.int i5), .val (.int i6), .val (.int i7), .val (.int i8), .val (.int i9), .val (.int i10), .val (.int i11), .val (.int i12), .val (.int i13), .val (.int i14), .val (.int i15), .val (.ref (n0 + ob16)), .val (.ref (n0 + ob17)), .val (.ref (n0 + ob18)), .val (.ref (n0 + ob19)), .val (.int i20), .val (.int i21), .val (.int i22), .val (.int i23), .val (.int i24), .val (.int i25), .val (.int i26), .val (.int t0), .val (.int v56), .val (.int v57), .val (.int v58), .val (.int v59), .val (.int v60), .val (.int v61), .val (.int v62), .val (.int v63)] [])) _
          refine XS.iconst X0.here hx rfl (hb hby at_605) ?_
          exact k
        obtain ⟨rfl, rfl⟩ := own_inj hf
        exact Gl.outN X0 hx hlk (t := .boolean) hret (by simp) (hb hby at_606) ⟨rfl, N0, by rw [e0]; exact O0⟩ (by show _ ≤ 24; omega) (by show _ ≤ 192; omega)
    · rw [if_neg hc79] at hf
      obtain ⟨x94, hx94, hf⟩ := own_bind hf
      refine Gl.on (B := T0.setTop (mkF m 613 #[.val (.int i0), .val (.int i1), .val (.int i2), .val (.int i3), .val (.int i4), .val (.int i5), .val (.int i6), .val (.int i7), .val (.int i8), .val (.int i9), .val (.int i10), .val (.int i11), .val (.int i12), .val (.int i13), .val (.int i14), .val (.int i15), .val (.ref (n0 + ob16)), .val (.ref (n0 + ob17)), .val (.ref (n0 + ob18)), .val (.ref (n0 + ob19)), .val (.int i20), .val (.int i21), .val (.int i22), .val (.int i23), .val (.int i24), .val (.int i25), .val (.int i26), .val (.int t0), .val (.int v56), .val (.int v57), .val (.int v58), .val (.int v59), .val (.int v60), .val (.int v61), .val (.int v62), .val (.int v63)] [(.int v58), (.int x94)])) (fun t k => ?_) ?_
      · show Steps p.tables e below (T0.setTop (mkF m 538 #[.val (.int i0), .val (.int i1), .val (.int i2), .val (.int i3), .val (.int i4), .val (.int i5), .val (.int i6), .val (.int i7), .val (.int i8), .val (.int i9), .val (.int i10), .val (.int i11), .val (.int i12), .val (.int i13), .val (.int i14), .val (.int i15), .val (.ref (n0 + ob16)), .val (.ref (n0 + ob17)), .val (.ref (n0 + ob18)), .val (.ref (n0 + ob19)), .val (.int i20), .val (.int i21), .val (.int i22), .val (.int i23), .val (.int i24), .val (.int i25), .val (.int i26), .val (.int t0), .val (.int v56), .val (.int v57), .val (.int v58), .val (.int v59), .val (.int v60), .val (.int v61), .val (.int v62), .val (.int v63)] [(.int (3 : Int32)), (.int i10)])) _
        refine XS.icmpYes X0.here hx rfl (pc0 := 538) (pc' := 607) rfl (hb hby at_538) rfl (feq hc79).2 (by decide) (by decide) ?_
        show Steps p.tables e below (T0.setTop (mkF m 607 #[.val (.int i0), .val (.int i1), .val (.int i2), .val (.int i3), .val (.int i4), .val (.int i5), .val (.int i6), .val (.int i7), .val (.int i8), .val (.int i9), .val (.int i10), .val (.int i11), .val (.int i12), .val (.int i13), .val (.int i14), .val (.int i15), .val (.ref (n0 + ob16)), .val (.ref (n0 + ob17)), .val (.ref (n0 + ob18)), .val (.ref (n0 + ob19)), .val (.int i20), .val (.int i21), .val (.int i22), .val (.int i23), .val (.int i24), .val (.int i25), .val (.int i26), .val (.int t0), .val (.int v56), .val (.int v57), .val (.int v58), .val (.int v59), .val (.int v60), .val (.int v61), .val (.int v62), .val (.int v63)] [])) _
        refine XS.aload X0.here hx rfl (hb hby at_607) rfl rfl ?_
        show Steps p.tables e below (T0.setTop (mkF m 609 #[.val (.int i0), .val (.int i1), .val (.int i2), .val (.int i3), .val (.int i4), .val (.int i5), .val (.int i6), .val (.int i7), .val (.int i8), .val (.int i9), .val (.int i10), .val (.int i11), .val (.int i12), .val (.int i13), .val (.int i14), .val (.int i15), .val (.ref (n0 + ob16)), .val (.ref (n0 + ob17)), .val (.ref (n0 + ob18)), .val (.ref (n0 + ob19)), .val (.int i20), .val (.int i21), .val (.int i22), .val (.int i23), .val (.int i24), .val (.int i25), .val (.int i26), .val (.int t0), .val (.int v56), .val (.int v57), .val (.int v58), .val (.int v59), .val (.int v60), .val (.int v61), .val (.int v62), .val (.int v63)] [(.ref (n0 + ob19))])) _
        refine XS.iconst X0.here hx rfl (hb hby at_609) ?_
        show Steps p.tables e below (T0.setTop (mkF m 610 #[.val (.int i0), .val (.int i1), .val (.int i2), .val (.int i3), .val (.int i4), .val (.int i5), .val (.int i6), .val (.int i7), .val (.int i8), .val (.int i9), .val (.int i10), .val (.int i11), .val (.int i12), .val (.int i13), .val (.int i14), .val (.int i15), .val (.ref (n0 + ob16)), .val (.ref (n0 + ob17)), .val (.ref (n0 + ob18)), .val (.ref (n0 + ob19)), .val (.int i20), .val (.int i21), .val (.int i22), .val (.int i23), .val (.int i24), .val (.int i25), .val (.int i26), .val (.int t0), .val (.int v56), .val (.int v57), .val (.int v58), .val (.int v59), .val (.int v60), .val (.int v61), .val (.int v62), .val (.int v63)] [(.int (0 : Int32)), (.ref (n0 + ob19))])) _
        refine ldW X0 hx hZ e0 O0 hx94 rfl (g := (mkF m 610 #[.val (.int i0), .val (.int i1), .val (.int i2), .val (.int i3), .val (.int i4), .val (.int i5), .val (.int i6), .val (.int i7), .val (.int i8), .val (.int i9), .val (.int i10), .val (.int i11), .val (.int i12), .val (.int i13), .val (.int i14), .val (.int i15), .val (.ref (n0 + ob16)), .val (.ref (n0 + ob17)), .val (.ref (n0 + ob18)), .val (.ref (n0 + ob19)), .val (.int i20), .val (.int i21), .val (.int i22), .val (.int i23), .val (.int i24), .val (.int i25), .val (.int i26), .val (.int t0), .val (.int v56), .val (.int v57), .val (.int v58), .val (.int v59), .val (.int v60), .val (.int v61), .val (.int v62), .val (.int v63)] [(.int (0 : Int32)), (.ref (n0 + ob19))])) rfl rfl (hb hby at_610) _ ?_
        show Steps p.tables e below (T0.setTop (mkF m 611 #[.val (.int i0), .val (.int i1), .val (.int i2), .val (.int i3), .val (.int i4), .val (.int i5), .val (.int i6), .val (.int i7), .val (.int i8), .val (.int i9), .val (.int i10), .val (.int i11), .val (.int i12), .val (.int i13), .val (.int i14), .val (.int i15), .val (.ref (n0 + ob16)), .val (.ref (n0 + ob17)), .val (.ref (n0 + ob18)), .val (.ref (n0 + ob19)), .val (.int i20), .val (.int i21), .val (.int i22), .val (.int i23), .val (.int i24), .val (.int i25), .val (.int i26), .val (.int t0), .val (.int v56), .val (.int v57), .val (.int v58), .val (.int v59), .val (.int v60), .val (.int v61), .val (.int v62), .val (.int v63)] [(.int x94)])) _
        refine XS.iload X0.here hx rfl (hb hby at_611) rfl ?_
        exact k
      by_cases hc95 : x94 = v58
      · rw [if_pos hc95] at hf
        obtain ⟨x96, hx96, hf⟩ := own_bind hf
        refine Gl.on (B := T0.setTop (mkF m 622 #[.val (.int i0), .val (.int i1), .val (.int i2), .val (.int i3), .val (.int i4), .val (.int i5), .val (.int i6), .val (.int i7), .val (.int i8), .val (.int i9), .val (.int i10), .val (.int i11), .val (.int i12), .val (.int i13), .val (.int i14), .val (.int i15), .val (.ref (n0 + ob16)), .val (.ref (n0 + ob17)), .val (.ref (n0 + ob18)), .val (.ref (n0 + ob19)), .val (.int i20), .val (.int i21), .val (.int i22), .val (.int i23), .val (.int i24), .val (.int i25), .val (.int i26), .val (.int t0), .val (.int v56), .val (.int v57), .val (.int v58), .val (.int v59), .val (.int v60), .val (.int v61), .val (.int v62), .val (.int v63)] [(.int v59), (.int x96)])) (fun t k => ?_) ?_
        · show Steps p.tables e below (T0.setTop (mkF m 613 #[.val (.int i0), .val (.int i1), .val (.int i2), .val (.int i3), .val (.int i4), .val (.int i5), .val (.int i6), .val (.int i7), .val (.int i8), .val (.int i9), .val (.int i10), .val (.int i11), .val (.int i12), .val (.int i13), .val (.int i14), .val (.int i15), .val (.ref (n0 + ob16)), .val (.ref (n0 + ob17)), .val (.ref (n0 + ob18)), .val (.ref (n0 + ob19)), .val (.int i20), .val (.int i21), .val (.int i22), .val (.int i23), .val (.int i24), .val (.int i25), .val (.int i26), .val (.int t0), .val (.int v56), .val (.int v57), .val (.int v58), .val (.int v59), .val (.int v60), .val (.int v61), .val (.int v62), .val (.int v63)] [(.int v58), (.int x94)])) _
          refine XS.icmpNo X0.here hx rfl (hb hby at_613) rfl (teq hc95).2 ?_
          show Steps p.tables e below (T0.setTop (mkF m 616 #[.val (.int i0), .val (.int i1), .val (.int i2), .val (.int i3), .val (.int i4), .val (.int i5), .val (.int i6), .val (.int i7), .val (.int i8), .val (.int i9), .val (.int i10), .val (.int i11), .val (.int i12), .val (.int i13), .val (.int i14), .val (.int i15), .val (.ref (n0 + ob16)), .val (.ref (n0 + ob17)), .val (.ref (n0 + ob18)), .val (.ref (n0 + ob19)), .val (.int i20), .val (.int i21), .val (.int i22), .val (.int i23), .val (.int i24), .val (.int i25), .val (.int i26), .val (.int t0), .val (.int v56), .val (.int v57), .val (.int v58), .val (.int v59), .val (.int v60), .val (.int v61), .val (.int v62), .val (.int v63)] [])) _
          refine XS.aload X0.here hx rfl (hb hby at_616) rfl rfl ?_
          show Steps p.tables e below (T0.setTop (mkF m 618 #[.val (.int i0), .val (.int i1), .val (.int i2), .val (.int i3), .val (.int i4), .val (.int i5), .val (.int i6), .val (.int i7), .val (.int i8), .val (.int i9), .val (.int i10), .val (.int i11), .val (.int i12), .val (.int i13), .val (.int i14), .val (.int i15), .val (.ref (n0 + ob16)), .val (.ref (n0 + ob17)), .val (.ref (n0 + ob18)), .val (.ref (n0 + ob19)), .val (.int i20), .val (.int i21), .val (.int i22), .val (.int i23), .val (.int i24), .val (.int i25), .val (.int i26), .val (.int t0), .val (.int v56), .val (.int v57), .val (.int v58), .val (.int v59), .val (.int v60), .val (.int v61), .val (.int v62), .val (.int v63)] [(.ref (n0 + ob19))])) _
          refine XS.iconst X0.here hx rfl (hb hby at_618) ?_
          show Steps p.tables e below (T0.setTop (mkF m 619 #[.val (.int i0), .val (.int i1), .val (.int i2), .val (.int i3), .val (.int i4), .val (.int i5), .val (.int i6), .val (.int i7), .val (.int i8), .val (.int i9), .val (.int i10), .val (.int i11), .val (.int i12), .val (.int i13), .val (.int i14), .val (.int i15), .val (.ref (n0 + ob16)), .val (.ref (n0 + ob17)), .val (.ref (n0 + ob18)), .val (.ref (n0 + ob19)), .val (.int i20), .val (.int i21), .val (.int i22), .val (.int i23), .val (.int i24), .val (.int i25), .val (.int i26), .val (.int t0), .val (.int v56), .val (.int v57), .val (.int v58), .val (.int v59), .val (.int v60), .val (.int v61), .val (.int v62), .val (.int v63)] [(.int (1 : Int32)), (.ref (n0 + ob19))])) _
          refine ldW X0 hx hZ e0 O0 hx96 rfl (g := (mkF m 619 #[.val (.int i0), .val (.int i1), .val (.int i2), .val (.int i3), .val (.int i4), .val (.int i5), .val (.int i6), .val (.int i7), .val (.int i8), .val (.int i9), .val (.int i10), .val (.int i11), .val (.int i12), .val (.int i13), .val (.int i14), .val (.int i15), .val (.ref (n0 + ob16)), .val (.ref (n0 + ob17)), .val (.ref (n0 + ob18)), .val (.ref (n0 + ob19)), .val (.int i20), .val (.int i21), .val (.int i22), .val (.int i23), .val (.int i24), .val (.int i25), .val (.int i26), .val (.int t0), .val (.int v56), .val (.int v57), .val (.int v58), .val (.int v59), .val (.int v60), .val (.int v61), .val (.int v62), .val (.int v63)] [(.int (1 : Int32)), (.ref (n0 + ob19))])) rfl rfl (hb hby at_619) _ ?_
          show Steps p.tables e below (T0.setTop (mkF m 620 #[.val (.int i0), .val (.int i1), .val (.int i2), .val (.int i3), .val (.int i4), .val (.int i5), .val (.int i6), .val (.int i7), .val (.int i8), .val (.int i9), .val (.int i10), .val (.int i11), .val (.int i12), .val (.int i13), .val (.int i14), .val (.int i15), .val (.ref (n0 + ob16)), .val (.ref (n0 + ob17)), .val (.ref (n0 + ob18)), .val (.ref (n0 + ob19)), .val (.int i20), .val (.int i21), .val (.int i22), .val (.int i23), .val (.int i24), .val (.int i25), .val (.int i26), .val (.int t0), .val (.int v56), .val (.int v57), .val (.int v58), .val (.int v59), .val (.int v60), .val (.int v61), .val (.int v62), .val (.int v63)] [(.int x96)])) _
          refine XS.iload X0.here hx rfl (hb hby at_620) rfl ?_
          exact k
        by_cases hc97 : x96 = v59
        · rw [if_pos hc97] at hf
          obtain ⟨x98, hx98, hf⟩ := own_bind hf
          refine Gl.on (B := T0.setTop (mkF m 631 #[.val (.int i0), .val (.int i1), .val (.int i2), .val (.int i3), .val (.int i4), .val (.int i5), .val (.int i6), .val (.int i7), .val (.int i8), .val (.int i9), .val (.int i10), .val (.int i11), .val (.int i12), .val (.int i13), .val (.int i14), .val (.int i15), .val (.ref (n0 + ob16)), .val (.ref (n0 + ob17)), .val (.ref (n0 + ob18)), .val (.ref (n0 + ob19)), .val (.int i20), .val (.int i21), .val (.int i22), .val (.int i23), .val (.int i24), .val (.int i25), .val (.int i26), .val (.int t0), .val (.int v56), .val (.int v57), .val (.int v58), .val (.int v59), .val (.int v60), .val (.int v61), .val (.int v62), .val (.int v63)] [(.int v60), (.int x98)])) (fun t k => ?_) ?_
          · show Steps p.tables e below (T0.setTop (mkF m 622 #[.val (.int i0), .val (.int i1), .val (.int i2), .val (.int i3), .val (.int i4), .val (.int i5), .val (.int i6), .val (.int i7), .val (.int i8), .val (.int i9), .val (.int i10), .val (.int i11), .val (.int i12), .val (.int i13), .val (.int i14), .val (.int i15), .val (.ref (n0 + ob16)), .val (.ref (n0 + ob17)), .val (.ref (n0 + ob18)), .val (.ref (n0 + ob19)), .val (.int i20), .val (.int i21), .val (.int i22), .val (.int i23), .val (.int i24), .val (.int i25), .val (.int i26), .val (.int t0), .val (.int v56), .val (.int v57), .val (.int v58), .val (.int v59), .val (.int v60), .val (.int v61), .val (.int v62), .val (.int v63)] [(.int v59), (.int x96)])) _
            refine XS.icmpNo X0.here hx rfl (hb hby at_622) rfl (teq hc97).2 ?_
            show Steps p.tables e below (T0.setTop (mkF m 625 #[.val (.int i0), .val (.int i1), .val (.int i2), .val (.int i3), .val (.int i4), .val (.int i5), .val (.int i6), .val (.int i7), .val (.int i8), .val (.int i9), .val (.int i10), .val (.int i11), .val (.int i12), .val (.int i13), .val (.int i14), .val (.int i15), .val (.ref (n0 + ob16)), .val (.ref (n0 + ob17)), .val (.ref (n0 + ob18)), .val (.ref (n0 + ob19)), .val (.int i20), .val (.int i21), .val (.int i22), .val (.int i23), .val (.int i24), .val (.int i25), .val (.int i26), .val (.int t0), .val (.int v56), .val (.int v57), .val (.int v58), .val (.int v59), .val (.int v60), .val (.int v61), .val (.int v62), .val (.int v63)] [])) _
            refine XS.aload X0.here hx rfl (hb hby at_625) rfl rfl ?_
            show Steps p.tables e below (T0.setTop (mkF m 627 #[.val (.int i0), .val (.int i1), .val (.int i2), .val (.int i3), .val (.int i4), .val (.int i5), .val (.int i6), .val (.int i7), .val (.int i8), .val (.int i9), .val (.int i10), .val (.int i11), .val (.int i12), .val (.int i13), .val (.int i14), .val (.int i15), .val (.ref (n0 + ob16)), .val (.ref (n0 + ob17)), .val (.ref (n0 + ob18)), .val (.ref (n0 + ob19)), .val (.int i20), .val (.int i21), .val (.int i22), .val (.int i23), .val (.int i24), .val (.int i25), .val (.int i26), .val (.int t0), .val (.int v56), .val (.int v57), .val (.int v58), .val (.int v59), .val (.int v60), .val (.int v61), .val (.int v62), .val (.int v63)] [(.ref (n0 + ob19))])) _
            refine XS.iconst X0.here hx rfl (hb hby at_627) ?_
            show Steps p.tables e below (T0.setTop (mkF m 628 #[.val (.int i0), .val (.int i1), .val (.int i2), .val (.int i3), .val (.int i4), .val (.int i5), .val (.int i6), .val (.int i7), .val (.int i8), .val (.int i9), .val (.int i10), .val (.int i11), .val (.int i12), .val (.int i13), .val (.int i14), .val (.int i15), .val (.ref (n0 + ob16)), .val (.ref (n0 + ob17)), .val (.ref (n0 + ob18)), .val (.ref (n0 + ob19)), .val (.int i20), .val (.int i21), .val (.int i22), .val (.int i23), .val (.int i24), .val (.int i25), .val (.int i26), .val (.int t0), .val (.int v56), .val (.int v57), .val (.int v58), .val (.int v59), .val (.int v60), .val (.int v61), .val (.int v62), .val (.int v63)] [(.int (2 : Int32)), (.ref (n0 + ob19))])) _
            refine ldW X0 hx hZ e0 O0 hx98 rfl (g := (mkF m 628 #[.val (.int i0), .val (.int i1), .val (.int i2), .val (.int i3), .val (.int i4), .val (.int i5), .val (.int i6), .val (.int i7), .val (.int i8), .val (.int i9), .val (.int i10), .val (.int i11), .val (.int i12), .val (.int i13), .val (.int i14), .val (.int i15), .val (.ref (n0 + ob16)), .val (.ref (n0 + ob17)), .val (.ref (n0 + ob18)), .val (.ref (n0 + ob19)), .val (.int i20), .val (.int i21), .val (.int i22), .val (.int i23), .val (.int i24), .val (.int i25), .val (.int i26), .val (.int t0), .val (.int v56), .val (.int v57), .val (.int v58), .val (.int v59), .val (.int v60), .val (.int v61), .val (.int v62), .val (.int v63)] [(.int (2 : Int32)), (.ref (n0 + ob19))])) rfl rfl (hb hby at_628) _ ?_
            show Steps p.tables e below (T0.setTop (mkF m 629 #[.val (.int i0), .val (.int i1), .val (.int i2), .val (.int i3), .val (.int i4), .val (.int i5), .val (.int i6), .val (.int i7), .val (.int i8), .val (.int i9), .val (.int i10), .val (.int i11), .val (.int i12), .val (.int i13), .val (.int i14), .val (.int i15), .val (.ref (n0 + ob16)), .val (.ref (n0 + ob17)), .val (.ref (n0 + ob18)), .val (.ref (n0 + ob19)), .val (.int i20), .val (.int i21), .val (.int i22), .val (.int i23), .val (.int i24), .val (.int i25), .val (.int i26), .val (.int t0), .val (.int v56), .val (.int v57), .val (.int v58), .val (.int v59), .val (.int v60), .val (.int v61), .val (.int v62), .val (.int v63)] [(.int x98)])) _
            refine XS.iload X0.here hx rfl (hb hby at_629) rfl ?_
            exact k
          by_cases hc99 : x98 = v60
          · rw [if_pos hc99] at hf
            obtain ⟨x100, hx100, hf⟩ := own_bind hf
            refine Gl.on (B := T0.setTop (mkF m 640 #[.val (.int i0), .val (.int i1), .val (.int i2), .val (.int i3), .val (.int i4), .val (.int i5), .val (.int i6), .val (.int i7), .val (.int i8), .val (.int i9), .val (.int i10), .val (.int i11), .val (.int i12), .val (.int i13), .val (.int i14), .val (.int i15), .val (.ref (n0 + ob16)), .val (.ref (n0 + ob17)), .val (.ref (n0 + ob18)), .val (.ref (n0 + ob19)), .val (.int i20), .val (.int i21), .val (.int i22), .val (.int i23), .val (.int i24), .val (.int i25), .val (.int i26), .val (.int t0), .val (.int v56), .val (.int v57), .val (.int v58), .val (.int v59), .val (.int v60), .val (.int v61), .val (.int v62), .val (.int v63)] [(.int v61), (.int x100)])) (fun t k => ?_) ?_
            · show Steps p.tables e below (T0.setTop (mkF m 631 #[.val (.int i0), .val (.int i1), .val (.int i2), .val (.int i3), .val (.int i4), .val (.int i5), .val (.int i6), .val (.int i7), .val (.int i8), .val (.int i9), .val (.int i10), .val (.int i11), .val (.int i12), .val (.int i13), .val (.int i14), .val (.int i15), .val (.ref (n0 + ob16)), .val (.ref (n0 + ob17)), .val (.ref (n0 + ob18)), .val (.ref (n0 + ob19)), .val (.int i20), .val (.int i21), .val (.int i22), .val (.int i23), .val (.int i24), .val (.int i25), .val (.int i26), .val (.int t0), .val (.int v56), .val (.int v57), .val (.int v58), .val (.int v59), .val (.int v60), .val (.int v61), .val (.int v62), .val (.int v63)] [(.int v60), (.int x98)])) _
              refine XS.icmpNo X0.here hx rfl (hb hby at_631) rfl (teq hc99).2 ?_
              show Steps p.tables e below (T0.setTop (mkF m 634 #[.val (.int i0), .val (.int i1), .val (.int i2), .val (.int i3), .val (.int i4), .val (.int i5), .val (.int i6), .val (.int i7), .val (.int i8), .val (.int i9), .val (.int i10), .val (.int i11), .val (.int i12), .val (.int i13), .val (.int i14), .val (.int i15), .val (.ref (n0 + ob16)), .val (.ref (n0 + ob17)), .val (.ref (n0 + ob18)), .val (.ref (n0 + ob19)), .val (.int i20), .val (.int i21), .val (.int i22), .val (.int i23), .val (.int i24), .val (.int i25), .val (.int i26), .val (.int t0), .val (.int v56), .val (.int v57), .val (.int v58), .val (.int v59), .val (.int v60), .val (.int v61), .val (.int v62), .val (.int v63)] [])) _
              refine XS.aload X0.here hx rfl (hb hby at_634) rfl rfl ?_
              show Steps p.tables e below (T0.setTop (mkF m 636 #[.val (.int i0), .val (.int i1), .val (.int i2), .val (.int i3), .val (.int i4), .val (.int i5), .val (.int i6), .val (.int i7), .val (.int i8), .val (.int i9), .val (.int i10), .val (.int i11), .val (.int i12), .val (.int i13), .val (.int i14), .val (.int i15), .val (.ref (n0 + ob16)), .val (.ref (n0 + ob17)), .val (.ref (n0 + ob18)), .val (.ref (n0 + ob19)), .val (.int i20), .val (.int i21), .val (.int i22), .val (.int i23), .val (.int i24), .val (.int i25), .val (.int i26), .val (.int t0), .val (.int v56), .val (.int v57), .val (.int v58), .val (.int v59), .val (.int v60), .val (.int v61), .val (.int v62), .val (.int v63)] [(.ref (n0 + ob19))])) _
              refine XS.iconst X0.here hx rfl (hb hby at_636) ?_
              show Steps p.tables e below (T0.setTop (mkF m 637 #[.val (.int i0), .val (.int i1), .val (.int i2), .val (.int i3), .val (.int i4), .val (.int i5), .val (.int i6), .val (.int i7), .val (.int i8), .val (.int i9), .val (.int i10), .val (.int i11), .val (.int i12), .val (.int i13), .val (.int i14), .val (.int i15), .val (.ref (n0 + ob16)), .val (.ref (n0 + ob17)), .val (.ref (n0 + ob18)), .val (.ref (n0 + ob19)), .val (.int i20), .val (.int i21), .val (.int i22), .val (.int i23), .val (.int i24), .val (.int i25), .val (.int i26), .val (.int t0), .val (.int v56), .val (.int v57), .val (.int v58), .val (.int v59), .val (.int v60), .val (.int v61), .val (.int v62), .val (.int v63)] [(.int (3 : Int32)), (.ref (n0 + ob19))])) _
              refine ldW X0 hx hZ e0 O0 hx100 rfl (g := (mkF m 637 #[.val (.int i0), .val (.int i1), .val (.int i2), .val (.int i3), .val (.int i4), .val (.int i5), .val (.int i6), .val (.int i7), .val (.int i8), .val (.int i9), .val (.int i10), .val (.int i11), .val (.int i12), .val (.int i13), .val (.int i14), .val (.int i15), .val (.ref (n0 + ob16)), .val (.ref (n0 + ob17)), .val (.ref (n0 + ob18)), .val (.ref (n0 + ob19)), .val (.int i20), .val (.int i21), .val (.int i22), .val (.int i23), .val (.int i24), .val (.int i25), .val (.int i26), .val (.int t0), .val (.int v56), .val (.int v57), .val (.int v58), .val (.int v59), .val (.int v60), .val (.int v61), .val (.int v62), .val (.int v63)] [(.int (3 : Int32)), (.ref (n0 + ob19))])) rfl rfl (hb hby at_637) _ ?_
              show Steps p.tables e below (T0.setTop (mkF m 638 #[.val (.int i0), .val (.int i1), .val (.int i2), .val (.int i3), .val (.int i4), .val (.int i5), .val (.int i6), .val (.int i7), .val (.int i8), .val (.int i9), .val (.int i10), .val (.int i11), .val (.int i12), .val (.int i13), .val (.int i14), .val (.int i15), .val (.ref (n0 + ob16)), .val (.ref (n0 + ob17)), .val (.ref (n0 + ob18)), .val (.ref (n0 + ob19)), .val (.int i20), .val (.int i21), .val (.int i22), .val (.int i23), .val (.int i24), .val (.int i25), .val (.int i26), .val (.int t0), .val (.int v56), .val (.int v57), .val (.int v58), .val (.int v59), .val (.int v60), .val (.int v61), .val (.int v62), .val (.int v63)] [(.int x100)])) _
              refine XS.iload X0.here hx rfl (hb hby at_638) rfl ?_
              exact k
            by_cases hc101 : x100 = v61
            · rw [if_pos hc101] at hf
              obtain ⟨x102, hx102, hf⟩ := own_bind hf
              refine Gl.on (B := T0.setTop (mkF m 649 #[.val (.int i0), .val (.int i1), .val (.int i2), .val (.int i3), .val (.int i4), .val (.int i5), .val (.int i6), .val (.int i7), .val (.int i8), .val (.int i9), .val (.int i10), .val (.int i11), .val (.int i12), .val (.int i13), .val (.int i14), .val (.int i15), .val (.ref (n0 + ob16)), .val (.ref (n0 + ob17)), .val (.ref (n0 + ob18)), .val (.ref (n0 + ob19)), .val (.int i20), .val (.int i21), .val (.int i22), .val (.int i23), .val (.int i24), .val (.int i25), .val (.int i26), .val (.int t0), .val (.int v56), .val (.int v57), .val (.int v58), .val (.int v59), .val (.int v60), .val (.int v61), .val (.int v62), .val (.int v63)] [(.int v62), (.int x102)])) (fun t k => ?_) ?_
              · show Steps p.tables e below (T0.setTop (mkF m 640 #[.val (.int i0), .val (.int i1), .val (.int i2), .val (.int i3), .val (.int i4), .val (.int i5), .val (.int i6), .val (.int i7), .val (.int i8), .val (.int i9), .val (.int i10), .val (.int i11), .val (.int i12), .val (.int i13), .val (.int i14), .val (.int i15), .val (.ref (n0 + ob16)), .val (.ref (n0 + ob17)), .val (.ref (n0 + ob18)), .val (.ref (n0 + ob19)), .val (.int i20), .val (.int i21), .val (.int i22), .val (.int i23), .val (.int i24), .val (.int i25), .val (.int i26), .val (.int t0), .val (.int v56), .val (.int v57), .val (.int v58), .val (.int v59), .val (.int v60), .val (.int v61), .val (.int v62), .val (.int v63)] [(.int v61), (.int x100)])) _
                refine XS.icmpNo X0.here hx rfl (hb hby at_640) rfl (teq hc101).2 ?_
                show Steps p.tables e below (T0.setTop (mkF m 643 #[.val (.int i0), .val (.int i1), .val (.int i2), .val (.int i3), .val (.int i4), .val (.int i5), .val (.int i6), .val (.int i7), .val (.int i8), .val (.int i9), .val (.int i10), .val (.int i11), .val (.int i12), .val (.int i13), .val (.int i14), .val (.int i15), .val (.ref (n0 + ob16)), .val (.ref (n0 + ob17)), .val (.ref (n0 + ob18)), .val (.ref (n0 + ob19)), .val (.int i20), .val (.int i21), .val (.int i22), .val (.int i23), .val (.int i24), .val (.int i25), .val (.int i26), .val (.int t0), .val (.int v56), .val (.int v57), .val (.int v58), .val (.int v59), .val (.int v60), .val (.int v61), .val (.int v62), .val (.int v63)] [])) _
                refine XS.aload X0.here hx rfl (hb hby at_643) rfl rfl ?_
                show Steps p.tables e below (T0.setTop (mkF m 645 #[.val (.int i0), .val (.int i1), .val (.int i2), .val (.int i3), .val (.int i4), .val (.int i5), .val (.int i6), .val (.int i7), .val (.int i8), .val (.int i9), .val (.int i10), .val (.int i11), .val (.int i12), .val (.int i13), .val (.int i14), .val (.int i15), .val (.ref (n0 + ob16)), .val (.ref (n0 + ob17)), .val (.ref (n0 + ob18)), .val (.ref (n0 + ob19)), .val (.int i20), .val (.int i21), .val (.int i22), .val (.int i23), .val (.int i24), .val (.int i25), .val (.int i26), .val (.int t0), .val (.int v56), .val (.int v57), .val (.int v58), .val (.int v59), .val (.int v60), .val (.int v61), .val (.int v62), .val (.int v63)] [(.ref (n0 + ob19))])) _
                refine XS.iconst X0.here hx rfl (hb hby at_645) ?_
                show Steps p.tables e below (T0.setTop (mkF m 646 #[.val (.int i0), .val (.int i1), .val (.int i2), .val (.int i3), .val (.int i4), .val (.int i5), .val (.int i6), .val (.int i7), .val (.int i8), .val (.int i9), .val (.int i10), .val (.int i11), .val (.int i12), .val (.int i13), .val (.int i14), .val (.int i15), .val (.ref (n0 + ob16)), .val (.ref (n0 + ob17)), .val (.ref (n0 + ob18)), .val (.ref (n0 + ob19)), .val (.int i20), .val (.int i21), .val (.int i22), .val (.int i23), .val (.int i24), .val (.int i25), .val (.int i26), .val (.int t0), .val (.int v56), .val (.int v57), .val (.int v58), .val (.int v59), .val (.int v60), .val (.int v61), .val (.int v62), .val (.int v63)] [(.int (4 : Int32)), (.ref (n0 + ob19))])) _
                refine ldW X0 hx hZ e0 O0 hx102 rfl (g := (mkF m 646 #[.val (.int i0), .val (.int i1), .val (.int i2), .val (.int i3), .val (.int i4), .val (.int i5), .val (.int i6), .val (.int i7), .val (.int i8), .val (.int i9), .val (.int i10), .val (.int i11), .val (.int i12), .val (.int i13), .val (.int i14), .val (.int i15), .val (.ref (n0 + ob16)), .val (.ref (n0 + ob17)), .val (.ref (n0 + ob18)), .val (.ref (n0 + ob19)), .val (.int i20), .val (.int i21), .val (.int i22), .val (.int i23), .val (.int i24), .val (.int i25), .val (.int i26), .val (.int t0), .val (.int v56), .val (.int v57), .val (.int v58), .val (.int v59), .val (.int v60), .val (.int v61), .val (.int v62), .val (.int v63)] [(.int (4 : Int32)), (.ref (n0 + ob19))])) rfl rfl (hb hby at_646) _ ?_
                show Steps p.tables e below (T0.setTop (mkF m 647 #[.val (.int i0), .val (.int i1), .val (.int i2), .val (.int i3), .val (.int i4), .val (.int i5), .val (.int i6), .val (.int i7), .val (.int i8), .val (.int i9), .val (.int i10), .val (.int i11), .val (.int i12), .val (.int i13), .val (.int i14), .val (.int i15), .val (.ref (n0 + ob16)), .val (.ref (n0 + ob17)), .val (.ref (n0 + ob18)), .val (.ref (n0 + ob19)), .val (.int i20), .val (.int i21), .val (.int i22), .val (.int i23), .val (.int i24), .val (.int i25), .val (.int i26), .val (.int t0), .val (.int v56), .val (.int v57), .val (.int v58), .val (.int v59), .val (.int v60), .val (.int v61), .val (.int v62), .val (.int v63)] [(.int x102)])) _
                refine XS.iload X0.here hx rfl (hb hby at_647) rfl ?_
                exact k
              by_cases hc103 : x102 = v62
              · rw [if_pos hc103] at hf
                obtain ⟨x104, hx104, hf⟩ := own_bind hf
                refine Gl.on (B := T0.setTop (mkF m 658 #[.val (.int i0), .val (.int i1), .val (.int i2), .val (.int i3), .val (.int i4), .val (.int i5), .val (.int i6), .val (.int i7), .val (.int i8), .val (.int i9), .val (.int i10), .val (.int i11), .val (.int i12), .val (.int i13), .val (.int i14), .val (.int i15), .val (.ref (n0 + ob16)), .val (.ref (n0 + ob17)), .val (.ref (n0 + ob18)), .val (.ref (n0 + ob19)), .val (.int i20), .val (.int i21), .val (.int i22), .val (.int i23), .val (.int i24), .val (.int i25), .val (.int i26), .val (.int t0), .val (.int v56), .val (.int v57), .val (.int v58), .val (.int v59), .val (.int v60), .val (.int v61), .val (.int v62), .val (.int v63)] [(.int v63), (.int x104)])) (fun t k => ?_) ?_
                · show Steps p.tables e below (T0.setTop (mkF m 649 #[.val (.int i0), .val (.int i1), .val (.int i2), .val (.int i3), .val (.int i4), .val (.int i5), .val (.int i6), .val (.int i7), .val (.int i8), .val (.int i9), .val (.int i10), .val (.int i11), .val (.int i12), .val (.int i13), .val (.int i14), .val (.int i15), .val (.ref (n0 + ob16)), .val (.ref (n0 + ob17)), .val (.ref (n0 + ob18)), .val (.ref (n0 + ob19)), .val (.int i20), .val (.int i21), .val (.int i22), .val (.int i23), .val (.int i24), .val (.int i25), .val (.int i26), .val (.int t0), .val (.int v56), .val (.int v57), .val (.int v58), .val (.int v59), .val (.int v60), .val (.int v61), .val (.int v62), .val (.int v63)] [(.int v62), (.int x102)])) _
                  refine XS.icmpNo X0.here hx rfl (hb hby at_649) rfl (teq hc103).2 ?_
                  show Steps p.tables e below (T0.setTop (mkF m 652 #[.val (.int i0), .val (.int i1), .val (.int i2), .val (.int i3), .val (.int i4), .val (.int i5), .val (.int i6), .val (.int i7), .val (.int i8), .val (.int i9), .val (.int i10), .val (.int i11), .val (.int i12), .val (.int i13), .val (.int i14), .val (.int i15), .val (.ref (n0 + ob16)), .val (.ref (n0 + ob17)), .val (.ref (n0 + ob18)), .val (.ref (n0 + ob19)), .val (.int i20), .val (.int i21), .val (.int i22), .val (.int i23), .val (.int i24), .val (.int i25), .val (.int i26), .val (.int t0), .val (.int v56), .val (.int v57), .val (.int v58), .val (.int v59), .val (.int v60), .val (.int v61), .val (.int v62), .val (.int v63)] [])) _
                  refine XS.aload X0.here hx rfl (hb hby at_652) rfl rfl ?_
                  show Steps p.tables e below (T0.setTop (mkF m 654 #[.val (.int i0), .val (.int i1), .val (.int i2), .val (.int i3), .val (.int i4), .val (.int i5), .val (.int i6), .val (.int i7), .val (.int i8), .val (.int i9), .val (.int i10), .val (.int i11), .val (.int i12), .val (.int i13), .val (.int i14), .val (.int i15), .val (.ref (n0 + ob16)), .val (.ref (n0 + ob17)), .val (.ref (n0 + ob18)), .val (.ref (n0 + ob19)), .val (.int i20), .val (.int i21), .val (.int i22), .val (.int i23), .val (.int i24), .val (.int i25), .val (.int i26), .val (.int t0), .val (.int v56), .val (.int v57), .val (.int v58), .val (.int v59), .val (.int v60), .val (.int v61), .val (.int v62), .val (.int v63)] [(.ref (n0 + ob19))])) _
                  refine XS.iconst X0.here hx rfl (hb hby at_654) ?_
                  show Steps p.tables e below (T0.setTop (mkF m 655 #[.val (.int i0), .val (.int i1), .val (.int i2), .val (.int i3), .val (.int i4), .val (.int i5), .val (.int i6), .val (.int i7), .val (.int i8), .val (.int i9), .val (.int i10), .val (.int i11), .val (.int i12), .val (.int i13), .val (.int i14), .val (.int i15), .val (.ref (n0 + ob16)), .val (.ref (n0 + ob17)), .val (.ref (n0 + ob18)), .val (.ref (n0 + ob19)), .val (.int i20), .val (.int i21), .val (.int i22), .val (.int i23), .val (.int i24), .val (.int i25), .val (.int i26), .val (.int t0), .val (.int v56), .val (.int v57), .val (.int v58), .val (.int v59), .val (.int v60), .val (.int v61), .val (.int v62), .val (.int v63)] [(.int (5 : Int32)), (.ref (n0 + ob19))])) _
                  refine ldW X0 hx hZ e0 O0 hx104 rfl (g := (mkF m 655 #[.val (.int i0), .val (.int i1), .val (.int i2), .val (.int i3), .val (.int i4), .val (.int i5), .val (.int i6), .val (.int i7), .val (.int i8), .val (.int i9), .val (.int i10), .val (.int i11), .val (.int i12), .val (.int i13), .val (.int i14), .val (.int i15), .val (.ref (n0 + ob16)), .val (.ref (n0 + ob17)), .val (.ref (n0 + ob18)), .val (.ref (n0 + ob19)), .val (.int i20), .val (.int i21), .val (.int i22), .val (.int i23), .val (.int i24), .val (.int i25), .val (.int i26), .val (.int t0), .val (.int v56), .val (.int v57), .val (.int v58), .val (.int v59), .val (.int v60), .val (.int v61), .val (.int v62), .val (.int v63)] [(.int (5 : Int32)), (.ref (n0 + ob19))])) rfl rfl (hb hby at_655) _ ?_
                  show Steps p.tables e below (T0.setTop (mkF m 656 #[.val (.int i0), .val (.int i1), .val (.int i2), .val (.int i3), .val (.int i4), .val (.int i5), .val (.int i6), .val (.int i7), .val (.int i8), .val (.int i9), .val (.int i10), .val (.int i11), .val (.int i12), .val (.int i13), .val (.int i14), .val (.int i15), .val (.ref (n0 + ob16)), .val (.ref (n0 + ob17)), .val (.ref (n0 + ob18)), .val (.ref (n0 + ob19)), .val (.int i20), .val (.int i21), .val (.int i22), .val (.int i23), .val (.int i24), .val (.int i25), .val (.int i26), .val (.int t0), .val (.int v56), .val (.int v57), .val (.int v58), .val (.int v59), .val (.int v60), .val (.int v61), .val (.int v62), .val (.int v63)] [(.int x104)])) _
                  refine XS.iload X0.here hx rfl (hb hby at_656) rfl ?_
                  exact k
                by_cases hc105 : x104 = v63
                · rw [if_pos hc105] at hf
                  obtain ⟨x106, hx106, hf⟩ := own_bind hf
                  refine Gl.on (B := T0.setTop (mkF m 667 #[.val (.int i0), .val (.int i1), .val (.int i2), .val (.int i3), .val (.int i4), .val (.int i5), .val (.int i6), .val (.int i7), .val (.int i8), .val (.int i9), .val (.int i10), .val (.int i11), .val (.int i12), .val (.int i13), .val (.int i14), .val (.int i15), .val (.ref (n0 + ob16)), .val (.ref (n0 + ob17)), .val (.ref (n0 + ob18)), .val (.ref (n0 + ob19)), .val (.int i20), .val (.int i21), .val (.int i22), .val (.int i23), .val (.int i24), .val (.int i25), .val (.int i26), .val (.int t0), .val (.int v56), .val (.int v57), .val (.int v58), .val (.int v59), .val (.int v60), .val (.int v61), .val (.int v62), .val (.int v63)] [(.int (-1 : Int32)), (.int x106)])) (fun t k => ?_) ?_
                  · show Steps p.tables e below (T0.setTop (mkF m 658 #[.val (.int i0), .val (.int i1), .val (.int i2), .val (.int i3), .val (.int i4), .val (.int i5), .val (.int i6), .val (.int i7), .val (.int i8), .val (.int i9), .val (.int i10), .val (.int i11), .val (.int i12), .val (.int i13), .val (.int i14), .val (.int i15), .val (.ref (n0 + ob16)), .val (.ref (n0 + ob17)), .val (.ref (n0 + ob18)), .val (.ref (n0 + ob19)), .val (.int i20), .val (.int i21), .val (.int i22), .val (.int i23), .val (.int i24), .val (.int i25), .val (.int i26), .val (.int t0), .val (.int v56), .val (.int v57), .val (.int v58), .val (.int v59), .val (.int v60), .val (.int v61), .val (.int v62), .val (.int v63)] [(.int v63), (.int x104)])) _
                    refine XS.icmpNo X0.here hx rfl (hb hby at_658) rfl (teq hc105).2 ?_
                    show Steps p.tables e below (T0.setTop (mkF m 661 #[.val (.int i0), .val (.int i1), .val (.int i2), .val (.int i3), .val (.int i4), .val (.int i5), .val (.int i6), .val (.int i7), .val (.int i8), .val (.int i9), .val (.int i10), .val (.int i11), .val (.int i12), .val (.int i13), .val (.int i14), .val (.int i15), .val (.ref (n0 + ob16)), .val (.ref (n0 + ob17)), .val (.ref (n0 + ob18)), .val (.ref (n0 + ob19)), .val (.int i20), .val (.int i21), .val (.int i22), .val (.int i23), .val (.int i24), .val (.int i25), .val (.int i26), .val (.int t0), .val (.int v56), .val (.int v57), .val (.int v58), .val (.int v59), .val (.int v60), .val (.int v61), .val (.int v62), .val (.int v63)] [])) _
                    refine XS.aload X0.here hx rfl (hb hby at_661) rfl rfl ?_
                    show Steps p.tables e below (T0.setTop (mkF m 663 #[.val (.int i0), .val (.int i1), .val (.int i2), .val (.int i3), .val (.int i4), .val (.int i5), .val (.int i6), .val (.int i7), .val (.int i8), .val (.int i9), .val (.int i10), .val (.int i11), .val (.int i12), .val (.int i13), .val (.int i14), .val (.int i15), .val (.ref (n0 + ob16)), .val (.ref (n0 + ob17)), .val (.ref (n0 + ob18)), .val (.ref (n0 + ob19)), .val (.int i20), .val (.int i21), .val (.int i22), .val (.int i23), .val (.int i24), .val (.int i25), .val (.int i26), .val (.int t0), .val (.int v56), .val (.int v57), .val (.int v58), .val (.int v59), .val (.int v60), .val (.int v61), .val (.int v62), .val (.int v63)] [(.ref (n0 + ob19))])) _
                    refine XS.bipush X0.here hx rfl (hb hby at_663) ?_
                    show Steps p.tables e below (T0.setTop (mkF m 665 #[.val (.int i0), .val (.int i1), .val (.int i2), .val (.int i3), .val (.int i4), .val (.int i5), .val (.int i6), .val (.int i7), .val (.int i8), .val (.int i9), .val (.int i10), .val (.int i11), .val (.int i12), .val (.int i13), .val (.int i14), .val (.int i15), .val (.ref (n0 + ob16)), .val (.ref (n0 + ob17)), .val (.ref (n0 + ob18)), .val (.ref (n0 + ob19)), .val (.int i20), .val (.int i21), .val (.int i22), .val (.int i23), .val (.int i24), .val (.int i25), .val (.int i26), .val (.int t0), .val (.int v56), .val (.int v57), .val (.int v58), .val (.int v59), .val (.int v60), .val (.int v61), .val (.int v62), .val (.int v63)] [(.int (6 : Int32)), (.ref (n0 + ob19))])) _
                    refine ldW X0 hx hZ e0 O0 hx106 rfl (g := (mkF m 665 #[.val (.int i0), .val (.int i1), .val (.int i2), .val (.int i3), .val (.int i4), .val (.int i5), .val (.int i6), .val (.int i7), .val (.int i8), .val (.int i9), .val (.int i10), .val (.int i11), .val (.int i12), .val (.int i13), .val (.int i14), .val (.int i15), .val (.ref (n0 + ob16)), .val (.ref (n0 + ob17)), .val (.ref (n0 + ob18)), .val (.ref (n0 + ob19)), .val (.int i20), .val (.int i21), .val (.int i22), .val (.int i23), .val (.int i24), .val (.int i25), .val (.int i26), .val (.int t0), .val (.int v56), .val (.int v57), .val (.int v58), .val (.int v59), .val (.int v60), .val (.int v61), .val (.int v62), .val (.int v63)] [(.int (6 : Int32)), (.ref (n0 + ob19))])) rfl rfl (hb hby at_665) _ ?_
                    show Steps p.tables e below (T0.setTop (mkF m 666 #[.val (.int i0), .val (.int i1), .val (.int i2), .val (.int i3), .val (.int i4), .val (.int i5), .val (.int i6), .val (.int i7), .val (.int i8), .val (.int i9), .val (.int i10), .val (.int i11), .val (.int i12), .val (.int i13), .val (.int i14), .val (.int i15), .val (.ref (n0 + ob16)), .val (.ref (n0 + ob17)), .val (.ref (n0 + ob18)), .val (.ref (n0 + ob19)), .val (.int i20), .val (.int i21), .val (.int i22), .val (.int i23), .val (.int i24), .val (.int i25), .val (.int i26), .val (.int t0), .val (.int v56), .val (.int v57), .val (.int v58), .val (.int v59), .val (.int v60), .val (.int v61), .val (.int v62), .val (.int v63)] [(.int x106)])) _
                    refine XS.iconst X0.here hx rfl (hb hby at_666) ?_
                    exact k
                  by_cases hc107 : x106 = (-1 : Int32)
                  · rw [if_pos hc107] at hf
                    refine Gl.on (B := T0.setTop (mkF m 675 #[.val (.int i0), .val (.int i1), .val (.int i2), .val (.int i3), .val (.int i4), .val (.int i5), .val (.int i6), .val (.int i7), .val (.int i8), .val (.int i9), .val (.int i10), .val (.int i11), .val (.int i12), .val (.int i13), .val (.int i14), .val (.int i15), .val (.ref (n0 + ob16)), .val (.ref (n0 + ob17)), .val (.ref (n0 + ob18)), .val (.ref (n0 + ob19)), .val (.int i20), .val (.int i21), .val (.int i22), .val (.int i23), .val (.int i24), .val (.int i25), .val (.int i26), .val (.int t0), .val (.int v56), .val (.int v57), .val (.int v58), .val (.int v59), .val (.int v60), .val (.int v61), .val (.int v62), .val (.int v63)] [(.int (1 : Int32))])) (fun t k => ?_) ?_
                    · show Steps p.tables e below (T0.setTop (mkF m 667 #[.val (.int i0), .val (.int i1), .val (.int i2), .val (.int i3), .val (.int i4), .val (.int i5), .val (.int i6), .val (.int i7), .val (.int i8), .val (.int i9), .val (.int i10), .val (.int i11), .val (.int i12), .val (.int i13), .val (.int i14), .val (.int i15), .val (.ref (n0 + ob16)), .val (.ref (n0 + ob17)), .val (.ref (n0 + ob18)), .val (.ref (n0 + ob19)), .val (.int i20), .val (.int i21), .val (.int i22), .val (.int i23), .val (.int i24), .val (.int i25), .val (.int i26), .val (.int t0), .val (.int v56), .val (.int v57), .val (.int v58), .val (.int v59), .val (.int v60), .val (.int v61), .val (.int v62), .val (.int v63)] [(.int (-1 : Int32)), (.int x106)])) _
                      refine XS.icmpNo X0.here hx rfl (hb hby at_667) rfl (teq hc107).2 ?_
                      show Steps p.tables e below (T0.setTop (mkF m 670 #[.val (.int i0), .val (.int i1), .val (.int i2), .val (.int i3), .val (.int i4), .val (.int i5), .val (.int i6), .val (.int i7), .val (.int i8), .val (.int i9), .val (.int i10), .val (.int i11), .val (.int i12), .val (.int i13), .val (.int i14), .val (.int i15), .val (.ref (n0 + ob16)), .val (.ref (n0 + ob17)), .val (.ref (n0 + ob18)), .val (.ref (n0 + ob19)), .val (.int i20), .val (.int i21), .val (.int i22), .val (.int i23), .val (.int i24), .val (.int i25), .val (.int i26), .val (.int t0), .val (.int v56), .val (.int v57), .val (.int v58), .val (.int v59), .val (.int v60), .val (.int v61), .val (.int v62), .val (.int v63)] [])) _
                      refine XS.iconst X0.here hx rfl (hb hby at_670) ?_
                      show Steps p.tables e below (T0.setTop (mkF m 671 #[.val (.int i0), .val (.int i1), .val (.int i2), .val (.int i3), .val (.int i4), .val (.int i5), .val (.int i6), .val (.int i7), .val (.int i8), .val (.int i9), .val (.int i10), .val (.int i11), .val (.int i12), .val (.int i13), .val (.int i14), .val (.int i15), .val (.ref (n0 + ob16)), .val (.ref (n0 + ob17)), .val (.ref (n0 + ob18)), .val (.ref (n0 + ob19)), .val (.int i20), .val (.int i21), .val (.int i22), .val (.int i23), .val (.int i24), .val (.int i25), .val (.int i26), .val (.int t0), .val (.int v56), .val (.int v57), .val (.int v58), .val (.int v59), .val (.int v60), .val (.int v61), .val (.int v62), .val (.int v63)] [(.int (1 : Int32))])) _
                      refine XS.goto X0.here hx rfl (pc0 := 671) (pc' := 675) rfl (hb hby at_671) (by decide) (by decide) ?_
                      exact k
                    obtain ⟨rfl, rfl⟩ := own_inj hf
                    exact Gl.outN X0 hx hlk (t := .boolean) hret (by simp) (hb hby at_675) ⟨rfl, N0, by rw [e0]; exact O0⟩ (by show _ ≤ 24; omega) (by show _ ≤ 192; omega)
                  · rw [if_neg hc107] at hf
                    refine Gl.on (B := T0.setTop (mkF m 675 #[.val (.int i0), .val (.int i1), .val (.int i2), .val (.int i3), .val (.int i4), .val (.int i5), .val (.int i6), .val (.int i7), .val (.int i8), .val (.int i9), .val (.int i10), .val (.int i11), .val (.int i12), .val (.int i13), .val (.int i14), .val (.int i15), .val (.ref (n0 + ob16)), .val (.ref (n0 + ob17)), .val (.ref (n0 + ob18)), .val (.ref (n0 + ob19)), .val (.int i20), .val (.int i21), .val (.int i22), .val (.int i23), .val (.int i24), .val (.int i25), .val (.int i26), .val (.int t0), .val (.int v56), .val (.int v57), .val (.int v58), .val (.int v59), .val (.int v60), .val (.int v61), .val (.int v62), .val (.int v63)] [(.int (0 : Int32))])) (fun t k => ?_) ?_
                    · show Steps p.tables e below (T0.setTop (mkF m 667 #[.val (.int i0), .val (.int i1), .val (.int i2), .val (.int i3), .val (.int i4), .val (.int i5), .val (.int i6), .val (.int i7), .val (.int i8), .val (.int i9), .val (.int i10), .val (.int i11), .val (.int i12), .val (.int i13), .val (.int i14), .val (.int i15), .val (.ref (n0 + ob16)), .val (.ref (n0 + ob17)), .val (.ref (n0 + ob18)), .val (.ref (n0 + ob19)), .val (.int i20), .val (.int i21), .val (.int i22), .val (.int i23), .val (.int i24), .val (.int i25), .val (.int i26), .val (.int t0), .val (.int v56), .val (.int v57), .val (.int v58), .val (.int v59), .val (.int v60), .val (.int v61), .val (.int v62), .val (.int v63)] [(.int (-1 : Int32)), (.int x106)])) _
                      refine XS.icmpYes X0.here hx rfl (pc0 := 667) (pc' := 674) rfl (hb hby at_667) rfl (feq hc107).2 (by decide) (by decide) ?_
                      show Steps p.tables e below (T0.setTop (mkF m 674 #[.val (.int i0), .val (.int i1), .val (.int i2), .val (.int i3), .val (.int i4), .val (.int i5), .val (.int i6), .val (.int i7), .val (.int i8), .val (.int i9), .val (.int i10), .val (.int i11), .val (.int i12), .val (.int i13), .val (.int i14), .val (.int i15), .val (.ref (n0 + ob16)), .val (.ref (n0 + ob17)), .val (.ref (n0 + ob18)), .val (.ref (n0 + ob19)), .val (.int i20), .val (.int i21), .val (.int i22), .val (.int i23), .val (.int i24), .val (.int i25), .val (.int i26), .val (.int t0), .val (.int v56), .val (.int v57), .val (.int v58), .val (.int v59), .val (.int v60), .val (.int v61), .val (.int v62), .val (.int v63)] [])) _
                      refine XS.iconst X0.here hx rfl (hb hby at_674) ?_
                      exact k
                    obtain ⟨rfl, rfl⟩ := own_inj hf
                    exact Gl.outN X0 hx hlk (t := .boolean) hret (by simp) (hb hby at_675) ⟨rfl, N0, by rw [e0]; exact O0⟩ (by show _ ≤ 24; omega) (by show _ ≤ 192; omega)
                · rw [if_neg hc105] at hf
                  refine Gl.on (B := T0.setTop (mkF m 675 #[.val (.int i0), .val (.int i1), .val (.int i2), .val (.int i3), .val (.int i4), .val (.int i5), .val (.int i6), .val (.int i7), .val (.int i8), .val (.int i9), .val (.int i10), .val (.int i11), .val (.int i12), .val (.int i13), .val (.int i14), .val (.int i15), .val (.ref (n0 + ob16)), .val (.ref (n0 + ob17)), .val (.ref (n0 + ob18)), .val (.ref (n0 + ob19)), .val (.int i20), .val (.int i21), .val (.int i22), .val (.int i23), .val (.int i24), .val (.int i25), .val (.int i26), .val (.int t0), .val (.int v56), .val (.int v57), .val (.int v58), .val (.int v59), .val (.int v60), .val (.int v61), .val (.int v62), .val (.int v63)] [(.int (0 : Int32))])) (fun t k => ?_) ?_
                  · show Steps p.tables e below (T0.setTop (mkF m 658 #[.val (.int i0), .val (.int i1), .val (.int i2), .val (.int i3), .val (.int i4), .val (.int i5), .val (.int i6), .val (.int i7), .val (.int i8), .val (.int i9), .val (.int i10), .val (.int i11), .val (.int i12), .val (.int i13), .val (.int i14), .val (.int i15), .val (.ref (n0 + ob16)), .val (.ref (n0 + ob17)), .val (.ref (n0 + ob18)), .val (.ref (n0 + ob19)), .val (.int i20), .val (.int i21), .val (.int i22), .val (.int i23), .val (.int i24), .val (.int i25), .val (.int i26), .val (.int t0), .val (.int v56), .val (.int v57), .val (.int v58), .val (.int v59), .val (.int v60), .val (.int v61), .val (.int v62), .val (.int v63)] [(.int v63), (.int x104)])) _
                    refine XS.icmpYes X0.here hx rfl (pc0 := 658) (pc' := 674) rfl (hb hby at_658) rfl (feq hc105).2 (by decide) (by decide) ?_
                    show Steps p.tables e below (T0.setTop (mkF m 674 #[.val (.int i0), .val (.int i1), .val (.int i2), .val (.int i3), .val (.int i4), .val (.int i5), .val (.int i6), .val (.int i7), .val (.int i8), .val (.int i9), .val (.int i10), .val (.int i11), .val (.int i12), .val (.int i13), .val (.int i14), .val (.int i15), .val (.ref (n0 + ob16)), .val (.ref (n0 + ob17)), .val (.ref (n0 + ob18)), .val (.ref (n0 + ob19)), .val (.int i20), .val (.int i21), .val (.int i22), .val (.int i23), .val (.int i24), .val (.int i25), .val (.int i26), .val (.int t0), .val (.int v56), .val (.int v57), .val (.int v58), .val (.int v59), .val (.int v60), .val (.int v61), .val (.int v62), .val (.int v63)] [])) _
                    refine XS.iconst X0.here hx rfl (hb hby at_674) ?_
                    exact k
                  obtain ⟨rfl, rfl⟩ := own_inj hf
                  exact Gl.outN X0 hx hlk (t := .boolean) hret (by simp) (hb hby at_675) ⟨rfl, N0, by rw [e0]; exact O0⟩ (by show _ ≤ 24; omega) (by show _ ≤ 192; omega)
              · rw [if_neg hc103] at hf
                refine Gl.on (B := T0.setTop (mkF m 675 #[.val (.int i0), .val (.int i1), .val (.int i2), .val (.int i3), .val (.int i4), .val (.int i5), .val (.int i6), .val (.int i7), .val (.int i8), .val (.int i9), .val (.int i10), .val (.int i11), .val (.int i12), .val (.int i13), .val (.int i14), .val (.int i15), .val (.ref (n0 + ob16)), .val (.ref (n0 + ob17)), .val (.ref (n0 + ob18)), .val (.ref (n0 + ob19)), .val (.int i20), .val (.int i21), .val (.int i22), .val (.int i23), .val (.int i24), .val (.int i25), .val (.int i26), .val (.int t0), .val (.int v56), .val (.int v57), .val (.int v58), .val (.int v59), .val (.int v60), .val (.int v61), .val (.int v62), .val (.int v63)] [(.int (0 : Int32))])) (fun t k => ?_) ?_
                · show Steps p.tables e below (T0.setTop (mkF m 649 #[.val (.int i0), .val (.int i1), .val (.int i2), .val (.int i3), .val (.int i4), .val (.int i5), .val (.int i6), .val (.int i7), .val (.int i8), .val (.int i9), .val (.int i10), .val (.int i11), .val (.int i12), .val (.int i13), .val (.int i14), .val (.int i15), .val (.ref (n0 + ob16)), .val (.ref (n0 + ob17)), .val (.ref (n0 + ob18)), .val (.ref (n0 + ob19)), .val (.int i20), .val (.int i21), .val (.int i22), .val (.int i23), .val (.int i24), .val (.int i25), .val (.int i26), .val (.int t0), .val (.int v56), .val (.int v57), .val (.int v58), .val (.int v59), .val (.int v60), .val (.int v61), .val (.int v62), .val (.int v63)] [(.int v62), (.int x102)])) _
                  refine XS.icmpYes X0.here hx rfl (pc0 := 649) (pc' := 674) rfl (hb hby at_649) rfl (feq hc103).2 (by decide) (by decide) ?_
                  show Steps p.tables e below (T0.setTop (mkF m 674 #[.val (.int i0), .val (.int i1), .val (.int i2), .val (.int i3), .val (.int i4), .val (.int i5), .val (.int i6), .val (.int i7), .val (.int i8), .val (.int i9), .val (.int i10), .val (.int i11), .val (.int i12), .val (.int i13), .val (.int i14), .val (.int i15), .val (.ref (n0 + ob16)), .val (.ref (n0 + ob17)), .val (.ref (n0 + ob18)), .val (.ref (n0 + ob19)), .val (.int i20), .val (.int i21), .val (.int i22), .val (.int i23), .val (.int i24), .val (.int i25), .val (.int i26), .val (.int t0), .val (.int v56), .val (.int v57), .val (.int v58), .val (.int v59), .val (.int v60), .val (.int v61), .val (.int v62), .val (.int v63)] [])) _
                  refine XS.iconst X0.here hx rfl (hb hby at_674) ?_
                  exact k
                obtain ⟨rfl, rfl⟩ := own_inj hf
                exact Gl.outN X0 hx hlk (t := .boolean) hret (by simp) (hb hby at_675) ⟨rfl, N0, by rw [e0]; exact O0⟩ (by show _ ≤ 24; omega) (by show _ ≤ 192; omega)
            · rw [if_neg hc101] at hf
              refine Gl.on (B := T0.setTop (mkF m 675 #[.val (.int i0), .val (.int i1), .val (.int i2), .val (.int i3), .val (.int i4), .val (.int i5), .val (.int i6), .val (.int i7), .val (.int i8), .val (.int i9), .val (.int i10), .val (.int i11), .val (.int i12), .val (.int i13), .val (.int i14), .val (.int i15), .val (.ref (n0 + ob16)), .val (.ref (n0 + ob17)), .val (.ref (n0 + ob18)), .val (.ref (n0 + ob19)), .val (.int i20), .val (.int i21), .val (.int i22), .val (.int i23), .val (.int i24), .val (.int i25), .val (.int i26), .val (.int t0), .val (.int v56), .val (.int v57), .val (.int v58), .val (.int v59), .val (.int v60), .val (.int v61), .val (.int v62), .val (.int v63)] [(.int (0 : Int32))])) (fun t k => ?_) ?_
              · show Steps p.tables e below (T0.setTop (mkF m 640 #[.val (.int i0), .val (.int i1), .val (.int i2), .val (.int i3), .val (.int i4), .val (.int i5), .val (.int i6), .val (.int i7), .val (.int i8), .val (.int i9), .val (.int i10), .val (.int i11), .val (.int i12), .val (.int i13), .val (.int i14), .val (.int i15), .val (.ref (n0 + ob16)), .val (.ref (n0 + ob17)), .val (.ref (n0 + ob18)), .val (.ref (n0 + ob19)), .val (.int i20), .val (.int i21), .val (.int i22), .val (.int i23), .val (.int i24), .val (.int i25), .val (.int i26), .val (.int t0), .val (.int v56), .val (.int v57), .val (.int v58), .val (.int v59), .val (.int v60), .val (.int v61), .val (.int v62), .val (.int v63)] [(.int v61), (.int x100)])) _
                refine XS.icmpYes X0.here hx rfl (pc0 := 640) (pc' := 674) rfl (hb hby at_640) rfl (feq hc101).2 (by decide) (by decide) ?_
                show Steps p.tables e below (T0.setTop (mkF m 674 #[.val (.int i0), .val (.int i1), .val (.int i2), .val (.int i3), .val (.int i4), .val (.int i5), .val (.int i6), .val (.int i7), .val (.int i8), .val (.int i9), .val (.int i10), .val (.int i11), .val (.int i12), .val (.int i13), .val (.int i14), .val (.int i15), .val (.ref (n0 + ob16)), .val (.ref (n0 + ob17)), .val (.ref (n0 + ob18)), .val (.ref (n0 + ob19)), .val (.int i20), .val (.int i21), .val (.int i22), .val (.int i23), .val (.int i24), .val (.int i25), .val (.int i26), .val (.int t0), .val (.int v56), .val (.int v57), .val (.int v58), .val (.int v59), .val (.int v60), .val (.int v61), .val (.int v62), .val (.int v63)] [])) _
                refine XS.iconst X0.here hx rfl (hb hby at_674) ?_
                exact k
              obtain ⟨rfl, rfl⟩ := own_inj hf
              exact Gl.outN X0 hx hlk (t := .boolean) hret (by simp) (hb hby at_675) ⟨rfl, N0, by rw [e0]; exact O0⟩ (by show _ ≤ 24; omega) (by show _ ≤ 192; omega)
          · rw [if_neg hc99] at hf
            refine Gl.on (B := T0.setTop (mkF m 675 #[.val (.int i0), .val (.int i1), .val (.int i2), .val (.int i3), .val (.int i4), .val (.int i5), .val (.int i6), .val (.int i7), .val (.int i8), .val (.int i9), .val (.int i10), .val (.int i11), .val (.int i12), .val (.int i13), .val (.int i14), .val (.int i15), .val (.ref (n0 + ob16)), .val (.ref (n0 + ob17)), .val (.ref (n0 + ob18)), .val (.ref (n0 + ob19)), .val (.int i20), .val (.int i21), .val (.int i22), .val (.int i23), .val (.int i24), .val (.int i25), .val (.int i26), .val (.int t0), .val (.int v56), .val (.int v57), .val (.int v58), .val (.int v59), .val (.int v60), .val (.int v61), .val (.int v62), .val (.int v63)] [(.int (0 : Int32))])) (fun t k => ?_) ?_
            · show Steps p.tables e below (T0.setTop (mkF m 631 #[.val (.int i0), .val (.int i1), .val (.int i2), .val (.int i3), .val (.int i4), .val (.int i5), .val (.int i6), .val (.int i7), .val (.int i8), .val (.int i9), .val (.int i10), .val (.int i11), .val (.int i12), .val (.int i13), .val (.int i14), .val (.int i15), .val (.ref (n0 + ob16)), .val (.ref (n0 + ob17)), .val (.ref (n0 + ob18)), .val (.ref (n0 + ob19)), .val (.int i20), .val (.int i21), .val (.int i22), .val (.int i23), .val (.int i24), .val (.int i25), .val (.int i26), .val (.int t0), .val (.int v56), .val (.int v57), .val (.int v58), .val (.int v59), .val (.int v60), .val (.int v61), .val (.int v62), .val (.int v63)] [(.int v60), (.int x98)])) _
              refine XS.icmpYes X0.here hx rfl (pc0 := 631) (pc' := 674) rfl (hb hby at_631) rfl (feq hc99).2 (by decide) (by decide) ?_
              show Steps p.tables e below (T0.setTop (mkF m 674 #[.val (.int i0), .val (.int i1), .val (.int i2), .val (.int i3), .val (.int i4), .val (.int i5), .val (.int i6), .val (.int i7), .val (.int i8), .val (.int i9), .val (.int i10), .val (.int i11), .val (.int i12), .val (.int i13), .val (.int i14), .val (.int i15), .val (.ref (n0 + ob16)), .val (.ref (n0 + ob17)), .val (.ref (n0 + ob18)), .val (.ref (n0 + ob19)), .val (.int i20), .val (.int i21), .val (.int i22), .val (.int i23), .val (.int i24), .val (.int i25), .val (.int i26), .val (.int t0), .val (.int v56), .val (.int v57), .val (.int v58), .val (.int v59), .val (.int v60), .val (.int v61), .val (.int v62), .val (.int v63)] [])) _
              refine XS.iconst X0.here hx rfl (hb hby at_674) ?_
              exact k
            obtain ⟨rfl, rfl⟩ := own_inj hf
            exact Gl.outN X0 hx hlk (t := .boolean) hret (by simp) (hb hby at_675) ⟨rfl, N0, by rw [e0]; exact O0⟩ (by show _ ≤ 24; omega) (by show _ ≤ 192; omega)
        · rw [if_neg hc97] at hf
          refine Gl.on (B := T0.setTop (mkF m 675 #[.val (.int i0), .val (.int i1), .val (.int i2), .val (.int i3), .val (.int i4), .val (.int i5), .val (.int i6), .val (.int i7), .val (.int i8), .val (.int i9), .val (.int i10), .val (.int i11), .val (.int i12), .val (.int i13), .val (.int i14), .val (.int i15), .val (.ref (n0 + ob16)), .val (.ref (n0 + ob17)), .val (.ref (n0 + ob18)), .val (.ref (n0 + ob19)), .val (.int i20), .val (.int i21), .val (.int i22), .val (.int i23), .val (.int i24), .val (.int i25), .val (.int i26), .val (.int t0), .val (.int v56), .val (.int v57), .val (.int v58), .val (.int v59), .val (.int v60), .val (.int v61), .val (.int v62), .val (.int v63)] [(.int (0 : Int32))])) (fun t k => ?_) ?_
          · show Steps p.tables e below (T0.setTop (mkF m 622 #[.val (.int i0), .val (.int i1), .val (.int i2), .val (.int i3), .val (.int i4), .val (.int i5), .val (.int i6), .val (.int i7), .val (.int i8), .val (.int i9), .val (.int i10), .val (.int i11), .val (.int i12), .val (.int i13), .val (.int i14), .val (.int i15), .val (.ref (n0 + ob16)), .val (.ref (n0 + ob17)), .val (.ref (n0 + ob18)), .val (.ref (n0 + ob19)), .val (.int i20), .val (.int i21), .val (.int i22), .val (.int i23), .val (.int i24), .val (.int i25), .val (.int i26), .val (.int t0), .val (.int v56), .val (.int v57), .val (.int v58), .val (.int v59), .val (.int v60), .val (.int v61), .val (.int v62), .val (.int v63)] [(.int v59), (.int x96)])) _
            refine XS.icmpYes X0.here hx rfl (pc0 := 622) (pc' := 674) rfl (hb hby at_622) rfl (feq hc97).2 (by decide) (by decide) ?_
            show Steps p.tables e below (T0.setTop (mkF m 674 #[.val (.int i0), .val (.int i1), .val (.int i2), .val (.int i3), .val (.int i4), .val (.int i5), .val (.int i6), .val (.int i7), .val (.int i8), .val (.int i9), .val (.int i10), .val (.int i11), .val (.int i12), .val (.int i13), .val (.int i14), .val (.int i15), .val (.ref (n0 + ob16)), .val (.ref (n0 + ob17)), .val (.ref (n0 + ob18)), .val (.ref (n0 + ob19)), .val (.int i20), .val (.int i21), .val (.int i22), .val (.int i23), .val (.int i24), .val (.int i25), .val (.int i26), .val (.int t0), .val (.int v56), .val (.int v57), .val (.int v58), .val (.int v59), .val (.int v60), .val (.int v61), .val (.int v62), .val (.int v63)] [])) _
            refine XS.iconst X0.here hx rfl (hb hby at_674) ?_
            exact k
          obtain ⟨rfl, rfl⟩ := own_inj hf
          exact Gl.outN X0 hx hlk (t := .boolean) hret (by simp) (hb hby at_675) ⟨rfl, N0, by rw [e0]; exact O0⟩ (by show _ ≤ 24; omega) (by show _ ≤ 192; omega)
      · rw [if_neg hc95] at hf
        refine Gl.on (B := T0.setTop (mkF m 675 #[.val (.int i0), .val (.int i1), .val (.int i2), .val (.int i3), .val (.int i4), .val (.int i5), .val (.int i6), .val (.int i7), .val (.int i8), .val (.int i9), .val (.int i10), .val (.int i11), .val (.int i12), .val (.int i13), .val (.int i14), .val (.int i15), .val (.ref (n0 + ob16)), .val (.ref (n0 + ob17)), .val (.ref (n0 + ob18)), .val (.ref (n0 + ob19)), .val (.int i20), .val (.int i21), .val (.int i22), .val (.int i23), .val (.int i24), .val (.int i25), .val (.int i26), .val (.int t0), .val (.int v56), .val (.int v57), .val (.int v58), .val (.int v59), .val (.int v60), .val (.int v61), .val (.int v62), .val (.int v63)] [(.int (0 : Int32))])) (fun t k => ?_) ?_
        · show Steps p.tables e below (T0.setTop (mkF m 613 #[.val (.int i0), .val (.int i1), .val (.int i2), .val (.int i3), .val (.int i4), .val (.int i5), .val (.int i6), .val (.int i7), .val (.int i8), .val (.int i9), .val (.int i10), .val (.int i11), .val (.int i12), .val (.int i13), .val (.int i14), .val (.int i15), .val (.ref (n0 + ob16)), .val (.ref (n0 + ob17)), .val (.ref (n0 + ob18)), .val (.ref (n0 + ob19)), .val (.int i20), .val (.int i21), .val (.int i22), .val (.int i23), .val (.int i24), .val (.int i25), .val (.int i26), .val (.int t0), .val (.int v56), .val (.int v57), .val (.int v58), .val (.int v59), .val (.int v60), .val (.int v61), .val (.int v62), .val (.int v63)] [(.int v58), (.int x94)])) _
          refine XS.icmpYes X0.here hx rfl (pc0 := 613) (pc' := 674) rfl (hb hby at_613) rfl (feq hc95).2 (by decide) (by decide) ?_
          show Steps p.tables e below (T0.setTop (mkF m 674 #[.val (.int i0), .val (.int i1), .val (.int i2), .val (.int i3), .val (.int i4), .val (.int i5), .val (.int i6), .val (.int i7), .val (.int i8), .val (.int i9), .val (.int i10), .val (.int i11), .val (.int i12), .val (.int i13), .val (.int i14), .val (.int i15), .val (.ref (n0 + ob16)), .val (.ref (n0 + ob17)), .val (.ref (n0 + ob18)), .val (.ref (n0 + ob19)), .val (.int i20), .val (.int i21), .val (.int i22), .val (.int i23), .val (.int i24), .val (.int i25), .val (.int i26), .val (.int t0), .val (.int v56), .val (.int v57), .val (.int v58), .val (.int v59), .val (.int v60), .val (.int v61), .val (.int v62), .val (.int v63)] [])) _
          refine XS.iconst X0.here hx rfl (hb hby at_674) ?_
          exact k
        obtain ⟨rfl, rfl⟩ := own_inj hf
        exact Gl.outN X0 hx hlk (t := .boolean) hret (by simp) (hb hby at_675) ⟨rfl, N0, by rw [e0]; exact O0⟩ (by show _ ≤ 24; omega) (by show _ ≤ 192; omega)
def b0_253 (D : Hp) (i6 : Int32) (i7 : Int32) (i8 : Int32) (i9 : Int32) (i10 : Int32) (i11 : Int32) (i12 : Int32) (i13 : Int32) (i14 : Int32) (i15 : Int32) (ob17 : Nat) (ob18 : Nat) : Option (Int32 × Hp) :=
  own_let (D.length) fun a39 => (nA D 0 (7 : Int32) 7 (.int (0 : Int32))).bind fun D39 =>
  (wV D39 a39 0 (0 : Int32) (.int (-1 : Int32))).bind fun D40 =>
  (wV D40 a39 0 (1 : Int32) (.int (-1 : Int32))).bind fun D41 =>
  (wV D41 a39 0 (2 : Int32) (.int (-1 : Int32))).bind fun D42 =>
  (wV D42 a39 0 (3 : Int32) (.int (-1 : Int32))).bind fun D43 =>
  (wV D43 a39 0 (4 : Int32) (.int (-1 : Int32))).bind fun D44 =>
  (wV D44 a39 0 (5 : Int32) (.int (-1 : Int32))).bind fun D45 =>
  (wV D45 a39 0 (6 : Int32) (.int (-1 : Int32))).bind fun D46 =>
  (ck D46 ob17 1).bind fun u48 => (f8 D46 ob17 ob18 i11 a39).bind fun D47 =>
  own_let (i6 * i7) fun v49 =>
  own_let (i6 * i8) fun v50 =>
  own_let (i6 * i9) fun v51 =>
  own_let (i7 * i8) fun v52 =>
  own_let (i7 * i9) fun v53 =>
  own_let (v49 + v50) fun v54 =>
  if i10 = (4 : Int32) then (b0_374 D47 i7 i8 i9 i10 i12 i13 i14 i15 a39 v52 v53 v49 v54 ((v49 + v50) + v51)) else (b0_374 D47 i7 i8 i9 i10 i12 i13 i14 i15 a39 v52 v53 v49 v54 (v49 + v50))
set_option maxRecDepth 65536 in
set_option maxHeartbeats 40000000 in
theorem bt0_253 {p : Program} {l : Launch} {e : Env} {s : State} {m : MethodId} {args : Array Value} {below : List Frame} {meth : Method} {c : Code} {Z : State} {a0 : Array Value} {n0 : Nat} {D' : Hp} {r : Int32} {T0 : State} {locs : List Loc} {cells slots : Nat} {h0 : Heap} {D : Hp} {i0 : Int32} {i1 : Int32} {i2 : Int32} {i3 : Int32} {i4 : Int32} {i5 : Int32} {i6 : Int32} {i7 : Int32} {i8 : Int32} {i9 : Int32} {i10 : Int32} {i11 : Int32} {i12 : Int32} {i13 : Int32} {i14 : Int32} {i15 : Int32} {ob16 : Nat} {ob17 : Nat} {ob18 : Nat} (hw : ∀ d ∈ tables_1, d.before a0 Z = true) (hC : Cx p s m meth c Z code maxLocals ret "com/example/pathweave/pathweave/core/PairIndexPairsOfPinLaw" "law") (X0 : Stand p l e room_1 s m args below meth c T0 locs cells slots) (e0 : T0.heap = h0) (O0 : Ow Kt1 Z h0 n0 D) (N0 : Fr n0 locs) (hcc : cells ≤ 6) (hss : slots ≤ 44) (hf : b0_253 D i6 i7 i8 i9 i10 i11 i12 i13 i14 i15 ob17 ob18 = some (r, D')) : Gl p e below s 24 192 (Qw Kt1 Z n0 (some (.int r)) D') (T0.setTop (mkF m 253 #[.val (.int i0), .val (.int i1), .val (.int i2), .val (.int i3), .val (.int i4), .val (.int i5), .val (.int i6), .val (.int i7), .val (.int i8), .val (.int i9), .val (.int i10), .val (.int i11), .val (.int i12), .val (.int i13), .val (.int i14), .val (.int i15), .val (.ref (n0 + ob16)), .val (.ref (n0 + ob17)), .val (.ref (n0 + ob18)), .unset, .unset, .unset, .unset, .unset, .unset, .unset, .unset, .unset, .unset, .unset, .unset, .unset, .unset, .unset, .unset, .unset] [])) := by
  obtain ⟨hx, hZ, hby, hml, hown, hnm, hret, hlk⟩ := id hC
  have hml : c.maxLocals = 36 := hml
  rw [b0_253] at hf
  obtain ⟨a39, ha39, hf⟩ := own_letE hf
  obtain ⟨D39, hD39, hf⟩ := own_bind hf
  obtain ⟨T39, h39, X39, e39, O39, st39⟩ := newAW X0 hx hZ (aty := .int) (hw _ (List.mem_of_getElem? (i := 1) rfl)) e0 O0 rfl rfl hD39 (g := (mkF m 255 #[.val (.int i0), .val (.int i1), .val (.int i2), .val (.int i3), .val (.int i4), .val (.int i5), .val (.int i6), .val (.int i7), .val (.int i8), .val (.int i9), .val (.int i10), .val (.int i11), .val (.int i12), .val (.int i13), .val (.int i14), .val (.int i15), .val (.ref (n0 + ob16)), .val (.ref (n0 + ob17)), .val (.ref (n0 + ob18)), .unset, .unset, .unset, .unset, .unset, .unset, .unset, .unset, .unset, .unset, .unset, .unset, .unset, .unset, .unset, .unset, .unset] [(.int (7 : Int32))])) rfl (hb hby at_255) rfl (by decide) (by show _ + 1 ≤ 24; omega) (by show _ + 7 ≤ 192; omega)
  rw [ha39] at st39
  obtain ⟨D40, hq40, hf⟩ := own_bind hf
  obtain ⟨T40, h40, L40, X40, e40, O40, N40, st40⟩ := stIW X39 hx hZ e39 O39 N0 hq40 rfl (g := (mkF m 263 #[.val (.int i0), .val (.int i1), .val (.int i2), .val (.int i3), .val (.int i4), .val (.int i5), .val (.int i6), .val (.int i7), .val (.int i8), .val (.int i9), .val (.int i10), .val (.int i11), .val (.int i12), .val (.int i13), .val (.int i14), .val (.int i15), .val (.ref (n0 + ob16)), .val (.ref (n0 + ob17)), .val (.ref (n0 + ob18)), .val (.ref (n0 + a39)), .unset, .unset, .unset, .unset, .unset, .unset, .unset, .unset, .unset, .unset, .unset, .unset, .unset, .unset, .unset, .unset] [(.int (-1 : Int32)), (.int (0 : Int32)), (.ref (n0 + a39))])) rfl rfl (hb hby at_263)
  obtain ⟨D41, hq41, hf⟩ := own_bind hf
  obtain ⟨T41, h41, L41, X41, e41, O41, N41, st41⟩ := stIW X40 hx hZ e40 O40 N40 hq41 rfl (g := (mkF m 268 #[.val (.int i0), .val (.int i1), .val (.int i2), .val (.int i3), .val (.int i4), .val (.int i5), .val (.int i6), .val (.int i7), .val (.int i8), .val (.int i9), .val (.int i10), .val (.int i11), .val (.int i12), .val (.int i13), .val (.int i14), .val (.int i15), .val (.ref (n0 + ob16)), .val (.ref (n0 + ob17)), .val (.ref (n0 + ob18)), .val (.ref (n0 + a39)), .unset, .unset, .unset, .unset, .unset, .unset, .unset, .unset, .unset, .unset, .unset, .unset, .unset, .unset, .unset, .unset] [(.int (-1 : Int32)), (.int (1 : Int32)), (.ref (n0 + a39))])) rfl rfl (hb hby at_268)
  obtain ⟨D42, hq42, hf⟩ := own_bind hf
  obtain ⟨T42, h42, L42, X42, e42, O42, N42, st42⟩ := stIW X41 hx hZ e41 O41 N41 hq42 rfl (g := (mkF m 273 #[.val (.int i0), .val (.int i1), .val (.int i2), .val (.int i3), .val (.int i4), .val (.int i5), .val (.int i6), .val (.int i7), .val (.int i8), .val (.int i9), .val (.int i10), .val (.int i11), .val (.int i12), .val (.int i13), .val (.int i14), .val (.int i15), .val (.ref (n0 + ob16)), .val (.ref (n0 + ob17)), .val (.ref (n0 + ob18)), .val (.ref (n0 + a39)), .unset, .unset, .unset, .unset, .unset, .unset, .unset, .unset, .unset, .unset, .unset, .unset, .unset, .unset, .unset, .unset] [(.int (-1 : Int32)), (.int (2 : Int32)), (.ref (n0 + a39))])) rfl rfl (hb hby at_273)
  obtain ⟨D43, hq43, hf⟩ := own_bind hf
  obtain ⟨T43, h43, L43, X43, e43, O43, N43, st43⟩ := stIW X42 hx hZ e42 O42 N42 hq43 rfl (g := (mkF m 278 #[.val (.int i0), .val (.int i1), .val (.int i2), .val (.int i3), .val (.int i4), .val (.int i5), .val (.int i6), .val (.int i7), .val (.int i8), .val (.int i9), .val (.int i10), .val (.int i11), .val (.int i12), .val (.int i13), .val (.int i14), .val (.int i15), .val (.ref (n0 + ob16)), .val (.ref (n0 + ob17)), .val (.ref (n0 + ob18)), .val (.ref (n0 + a39)), .unset, .unset, .unset, .unset, .unset, .unset, .unset, .unset, .unset, .unset, .unset, .unset, .unset, .unset, .unset, .unset] [(.int (-1 : Int32)), (.int (3 : Int32)), (.ref (n0 + a39))])) rfl rfl (hb hby at_278)
  obtain ⟨D44, hq44, hf⟩ := own_bind hf
  obtain ⟨T44, h44, L44, X44, e44, O44, N44, st44⟩ := stIW X43 hx hZ e43 O43 N43 hq44 rfl (g := (mkF m 283 #[.val (.int i0), .val (.int i1), .val (.int i2), .val (.int i3), .val (.int i4), .val (.int i5), .val (.int i6), .val (.int i7), .val (.int i8), .val (.int i9), .val (.int i10), .val (.int i11), .val (.int i12), .val (.int i13), .val (.int i14), .val (.int i15), .val (.ref (n0 + ob16)), .val (.ref (n0 + ob17)), .val (.ref (n0 + ob18)), .val (.ref (n0 + a39)), .unset, .unset, .unset, .unset, .unset, .unset, .unset, .unset, .unset, .unset, .unset, .unset, .unset, .unset, .unset, .unset] [(.int (-1 : Int32)), (.int (4 : Int32)), (.ref (n0 + a39))])) rfl rfl (hb hby at_283)
  obtain ⟨D45, hq45, hf⟩ := own_bind hf
  obtain ⟨T45, h45, L45, X45, e45, O45, N45, st45⟩ := stIW X44 hx hZ e44 O44 N44 hq45 rfl (g := (mkF m 288 #[.val (.int i0), .val (.int i1), .val (.int i2), .val (.int i3), .val (.int i4), .val (.int i5), .val (.int i6), .val (.int i7), .val (.int i8), .val (.int i9), .val (.int i10), .val (.int i11), .val (.int i12), .val (.int i13), .val (.int i14), .val (.int i15), .val (.ref (n0 + ob16)), .val (.ref (n0 + ob17)), .val (.ref (n0 + ob18)), .val (.ref (n0 + a39)), .unset, .unset, .unset, .unset, .unset, .unset, .unset, .unset, .unset, .unset, .unset, .unset, .unset, .unset, .unset, .unset] [(.int (-1 : Int32)), (.int (5 : Int32)), (.ref (n0 + a39))])) rfl rfl (hb hby at_288)
  obtain ⟨D46, hq46, hf⟩ := own_bind hf
  obtain ⟨T46, h46, L46, X46, e46, O46, N46, st46⟩ := stIW X45 hx hZ e45 O45 N45 hq46 rfl (g := (mkF m 294 #[.val (.int i0), .val (.int i1), .val (.int i2), .val (.int i3), .val (.int i4), .val (.int i5), .val (.int i6), .val (.int i7), .val (.int i8), .val (.int i9), .val (.int i10), .val (.int i11), .val (.int i12), .val (.int i13), .val (.int i14), .val (.int i15), .val (.ref (n0 + ob16)), .val (.ref (n0 + ob17)), .val (.ref (n0 + ob18)), .val (.ref (n0 + a39)), .unset, .unset, .unset, .unset, .unset, .unset, .unset, .unset, .unset, .unset, .unset, .unset, .unset, .unset, .unset, .unset] [(.int (-1 : Int32)), (.int (6 : Int32)), (.ref (n0 + a39))])) rfl rfl (hb hby at_294)
  obtain ⟨u48, hk47, hf⟩ := own_bind hf
  obtain ⟨D47, hq47, hf⟩ := own_bind hf
  obtain ⟨T47, h47, L47, X47, e47, O47, N47, st47⟩ := callVW X46 hx hZ (y := (⟨"com/example/pathweave/pathweave/core/PairIndex", "pairsOf", "([II[I)V"⟩ : MethodName)) hown (hw _ (List.mem_of_getElem? (i := 46) rfl)) (hw _ (List.mem_of_getElem? (i := 47) rfl)) (hw _ (List.mem_of_getElem? (i := 49) rfl)) (hw _ (List.mem_of_getElem? (i := 48) rfl)) (hw _ (List.mem_of_getElem? (i := 4) rfl)) (hw _ (List.mem_of_getElem? (i := 50) rfl)) (by decide) e46 O46 N46 hk47 rfl (as' := [(.ref (n0 + ob18)), (.int i11), (.ref (n0 + a39))]) (ct8 hw hq47) (W := 0) (kc := 0) (ks := 0) rfl rfl (by decide) (by decide) (g := (mkF m 303 #[.val (.int i0), .val (.int i1), .val (.int i2), .val (.int i3), .val (.int i4), .val (.int i5), .val (.int i6), .val (.int i7), .val (.int i8), .val (.int i9), .val (.int i10), .val (.int i11), .val (.int i12), .val (.int i13), .val (.int i14), .val (.int i15), .val (.ref (n0 + ob16)), .val (.ref (n0 + ob17)), .val (.ref (n0 + ob18)), .val (.ref (n0 + a39)), .unset, .unset, .unset, .unset, .unset, .unset, .unset, .unset, .unset, .unset, .unset, .unset, .unset, .unset, .unset, .unset] [(.ref (n0 + a39)), (.int i11), (.ref (n0 + ob18)), (.ref (n0 + ob17))])) rfl (by rw [hml]; rfl) (rest := []) (lenOf pd_5 rfl) rfl (by show 2 * 0 + _ ≤ _; exact Nat.le_of_eq rfl) (hb hby at_303) (by show _ + 0 ≤ 24; omega) (by show _ + 0 ≤ 192; omega)
  obtain ⟨v49, hv49, hf⟩ := own_letE hf
  obtain ⟨v50, hv50, hf⟩ := own_letE hf
  obtain ⟨v51, hv51, hf⟩ := own_letE hf
  obtain ⟨v52, hv52, hf⟩ := own_letE hf
  obtain ⟨v53, hv53, hf⟩ := own_letE hf
  obtain ⟨v54, hv54, hf⟩ := own_letE hf
  refine Gl.on (B := T47.setTop (mkF m 355 #[.val (.int i0), .val (.int i1), .val (.int i2), .val (.int i3), .val (.int i4), .val (.int i5), .val (.int i6), .val (.int i7), .val (.int i8), .val (.int i9), .val (.int i10), .val (.int i11), .val (.int i12), .val (.int i13), .val (.int i14), .val (.int i15), .val (.ref (n0 + ob16)), .val (.ref (n0 + ob17)), .val (.ref (n0 + ob18)), .val (.ref (n0 + a39)), .val (.int v49), .val (.int v50), .val (.int v51), .val (.int v52), .val (.int v53), .val (.int v49), .val (.int v54), .unset, .unset, .unset, .unset, .unset, .unset, .unset, .unset, .unset] [(.int (4 : Int32)), (.int i10)])) (fun t k => ?_) ?_
  · show Steps p.tables e below (T0.setTop (mkF m 253 #[.val (.int i0), .val (.int i1), .val (.int i2), .val (.int i3), .val (.int i4), .val (.int i5), .val (.int i6), .val (.int i7), .val (.int i8), .val (.int i9), .val (.int i10), .val (.int i11), .val (.int i12), .val (.int i13), .val (.int i14), .val (.int i15), .val (.ref (n0 + ob16)), .val (.ref (n0 + ob17)), .val (.ref (n0 + ob18)), .unset, .unset, .unset, .unset, .unset, .unset, .unset, .unset, .unset, .unset, .unset, .unset, .unset, .unset, .unset, .unset, .unset] [])) _
    refine XS.bipush X0.here hx rfl (hb hby at_253) ?_
    show Steps p.tables e below (T0.setTop (mkF m 255 #[.val (.int i0), .val (.int i1), .val (.int i2), .val (.int i3), .val (.int i4), .val (.int i5), .val (.int i6), .val (.int i7), .val (.int i8), .val (.int i9), .val (.int i10), .val (.int i11), .val (.int i12), .val (.int i13), .val (.int i14), .val (.int i15), .val (.ref (n0 + ob16)), .val (.ref (n0 + ob17)), .val (.ref (n0 + ob18)), .unset, .unset, .unset, .unset, .unset, .unset, .unset, .unset, .unset, .unset, .unset, .unset, .unset, .unset, .unset, .unset, .unset] [(.int (7 : Int32))])) _
    refine st39 _ ?_
    show Steps p.tables e below (T39.setTop (mkF m 257 #[.val (.int i0), .val (.int i1), .val (.int i2), .val (.int i3), .val (.int i4), .val (.int i5), .val (.int i6), .val (.int i7), .val (.int i8), .val (.int i9), .val (.int i10), .val (.int i11), .val (.int i12), .val (.int i13), .val (.int i14), .val (.int i15), .val (.ref (n0 + ob16)), .val (.ref (n0 + ob17)), .val (.ref (n0 + ob18)), .unset, .unset, .unset, .unset, .unset, .unset, .unset, .unset, .unset, .unset, .unset, .unset, .unset, .unset, .unset, .unset, .unset] [(.ref (n0 + a39))])) _
    refine XS.astore X39.here hx rfl (hb hby at_257) rfl rfl (l' := #[.val (.int i0), .val (.int i1), .val (.int i2), .val (.int i3), .val (.int i4), .val (.int i5), .val (.int i6), .val (.int i7), .val (.int i8), .val (.int i9), .val (.int i10), .val (.int i11), .val (.int i12), .val (.int i13), .val (.int i14), .val (.int i15), .val (.ref (n0 + ob16)), .val (.ref (n0 + ob17)), .val (.ref (n0 + ob18)), .val (.ref (n0 + a39)), .unset, .unset, .unset, .unset, .unset, .unset, .unset, .unset, .unset, .unset, .unset, .unset, .unset, .unset, .unset, .unset]) rfl ?_
    show Steps p.tables e below (T39.setTop (mkF m 259 #[.val (.int i0), .val (.int i1), .val (.int i2), .val (.int i3), .val (.int i4), .val (.int i5), .val (.int i6), .val (.int i7), .val (.int i8), .val (.int i9), .val (.int i10), .val (.int i11), .val (.int i12), .val (.int i13), .val (.int i14), .val (.int i15), .val (.ref (n0 + ob16)), .val (.ref (n0 + ob17)), .val (.ref (n0 + ob18)), .val (.ref (n0 + a39)), .unset, .unset, .unset, .unset, .unset, .unset, .unset, .unset, .unset, .unset, .unset, .unset, .unset, .unset, .unset, .unset] [])) _
    refine XS.aload X39.here hx rfl (hb hby at_259) rfl rfl ?_
    show Steps p.tables e below (T39.setTop (mkF m 261 #[.val (.int i0), .val (.int i1), .val (.int i2), .val (.int i3), .val (.int i4), .val (.int i5), .val (.int i6), .val (.int i7), .val (.int i8), .val (.int i9), .val (.int i10), .val (.int i11), .val (.int i12), .val (.int i13), .val (.int i14), .val (.int i15), .val (.ref (n0 + ob16)), .val (.ref (n0 + ob17)), .val (.ref (n0 + ob18)), .val (.ref (n0 + a39)), .unset, .unset, .unset, .unset, .unset, .unset, .unset, .unset, .unset, .unset, .unset, .unset, .unset, .unset, .unset, .unset] [(.ref (n0 + a39))])) _
    refine XS.iconst X39.here hx rfl (hb hby at_261) ?_
    show Steps p.tables e below (T39.setTop (mkF m 262 #[.val (.int i0), .val (.int i1), .val (.int i2), .val (.int i3), .val (.int i4), .val (.int i5), .val (.int i6), .val (.int i7), .val (.int i8), .val (.int i9), .val (.int i10), .val (.int i11), .val (.int i12), .val (.int i13), .val (.int i14), .val (.int i15), .val (.ref (n0 + ob16)), .val (.ref (n0 + ob17)), .val (.ref (n0 + ob18)), .val (.ref (n0 + a39)), .unset, .unset, .unset, .unset, .unset, .unset, .unset, .unset, .unset, .unset, .unset, .unset, .unset, .unset, .unset, .unset] [(.int (0 : Int32)), (.ref (n0 + a39))])) _
    refine XS.iconst X39.here hx rfl (hb hby at_262) ?_
    show Steps p.tables e below (T39.setTop (mkF m 263 #[.val (.int i0), .val (.int i1), .val (.int i2), .val (.int i3), .val (.int i4), .val (.int i5), .val (.int i6), .val (.int i7), .val (.int i8), .val (.int i9), .val (.int i10), .val (.int i11), .val (.int i12), .val (.int i13), .val (.int i14), .val (.int i15), .val (.ref (n0 + ob16)), .val (.ref (n0 + ob17)), .val (.ref (n0 + ob18)), .val (.ref (n0 + a39)), .unset, .unset, .unset, .unset, .unset, .unset, .unset, .unset, .unset, .unset, .unset, .unset, .unset, .unset, .unset, .unset] [(.int (-1 : Int32)), (.int (0 : Int32)), (.ref (n0 + a39))])) _
    refine st40 _ ?_
    show Steps p.tables e below (T40.setTop (mkF m 264 #[.val (.int i0), .val (.int i1), .val (.int i2), .val (.int i3), .val (.int i4), .val (.int i5), .val (.int i6), .val (.int i7), .val (.int i8), .val (.int i9), .val (.int i10), .val (.int i11), .val (.int i12), .val (.int i13), .val (.int i14), .val (.int i15), .val (.ref (n0 + ob16)), .val (.ref (n0 + ob17)), .val (.ref (n0 + ob18)), .val (.ref (n0 + a39)), .unset, .unset, .unset, .unset, .unset, .unset, .unset, .unset, .unset, .unset, .unset, .unset, .unset, .unset, .unset, .unset] [])) _
    refine XS.aload X40.here hx rfl (hb hby at_264) rfl rfl ?_
    show Steps p.tables e below (T40.setTop (mkF m 266 #[.val (.int i0), .val (.int i1), .val (.int i2), .val (.int i3), .val (.int i4), .val (.int i5), .val (.int i6), .val (.int i7), .val (.int i8), .val (.int i9), .val (.int i10), .val (.int i11), .val (.int i12), .val (.int i13), .val (.int i14), .val (.int i15), .val (.ref (n0 + ob16)), .val (.ref (n0 + ob17)), .val (.ref (n0 + ob18)), .val (.ref (n0 + a39)), .unset, .unset, .unset, .unset, .unset, .unset, .unset, .unset, .unset, .unset, .unset, .unset, .unset, .unset, .unset, .unset] [(.ref (n0 + a39))])) _
    refine XS.iconst X40.here hx rfl (hb hby at_266) ?_
    show Steps p.tables e below (T40.setTop (mkF m 267 #[.val (.int i0), .val (.int i1), .val (.int i2), .val (.int i3), .val (.int i4), .val (.int i5), .val (.int i6), .val (.int i7), .val (.int i8), .val (.int i9), .val (.int i10), .val (.int i11), .val (.int i12), .val (.int i13), .val (.int i14), .val (.int i15), .val (.ref (n0 + ob16)), .val (.ref (n0 + ob17)), .val (.ref (n0 + ob18)), .val (.ref (n0 + a39)), .unset, .unset, .unset, .unset, .unset, .unset, .unset, .unset, .unset, .unset, .unset, .unset, .unset, .unset, .unset, .unset] [(.int (1 : Int32)), (.ref (n0 + a39))])) _
    refine XS.iconst X40.here hx rfl (hb hby at_267) ?_
    show Steps p.tables e below (T40.setTop (mkF m 268 #[.val (.int i0), .val (.int i1), .val (.int i2), .val (.int i3), .val (.int i4), .val (.int i5), .val (.int i6), .val (.int i7), .val (.int i8), .val (.int i9), .val (.int i10), .val (.int i11), .val (.int i12), .val (.int i13), .val (.int i14), .val (.int i15), .val (.ref (n0 + ob16)), .val (.ref (n0 + ob17)), .val (.ref (n0 + ob18)), .val (.ref (n0 + a39)), .unset, .unset, .unset, .unset, .unset, .unset, .unset, .unset, .unset, .unset, .unset, .unset, .unset, .unset, .unset, .unset] [(.int (-1 : Int32)), (.int (1 : Int32)), (.ref (n0 + a39))])) _
    refine st41 _ ?_
    show Steps p.tables e below (T41.setTop (mkF m 269 #[.val (.int i0), .val (.int i1), .val (.int i2), .val (.int i3), .val (.int i4), .val (.int i5), .val (.int i6), .val (.int i7), .val (.int i8), .val (.int i9), .val (.int i10), .val (.int i11), .val (.int i12), .val (.int i13), .val (.int i14), .val (.int i15), .val (.ref (n0 + ob16)), .val (.ref (n0 + ob17)), .val (.ref (n0 + ob18)), .val (.ref (n0 + a39)), .unset, .unset, .unset, .unset, .unset, .unset, .unset, .unset, .unset, .unset, .unset, .unset, .unset, .unset, .unset, .unset] [])) _
    refine XS.aload X41.here hx rfl (hb hby at_269) rfl rfl ?_
    show Steps p.tables e below (T41.setTop (mkF m 271 #[.val (.int i0), .val (.int i1), .val (.int i2), .val (.int i3), .val (.int i4), .val (.int i5), .val (.int i6), .val (.int i7), .val (.int i8), .val (.int i9), .val (.int i10), .val (.int i11), .val (.int i12), .val (.int i13), .val (.int i14), .val (.int i15), .val (.ref (n0 + ob16)), .val (.ref (n0 + ob17)), .val (.ref (n0 + ob18)), .val (.ref (n0 + a39)), .unset, .unset, .unset, .unset, .unset, .unset, .unset, .unset, .unset, .unset, .unset, .unset, .unset, .unset, .unset, .unset] [(.ref (n0 + a39))])) _
    refine XS.iconst X41.here hx rfl (hb hby at_271) ?_
    show Steps p.tables e below (T41.setTop (mkF m 272 #[.val (.int i0), .val (.int i1), .val (.int i2), .val (.int i3), .val (.int i4), .val (.int i5), .val (.int i6), .val (.int i7), .val (.int i8), .val (.int i9), .val (.int i10), .val (.int i11), .val (.int i12), .val (.int i13), .val (.int i14), .val (.int i15), .val (.ref (n0 + ob16)), .val (.ref (n0 + ob17)), .val (.ref (n0 + ob18)), .val (.ref (n0 + a39)), .unset, .unset, .unset, .unset, .unset, .unset, .unset, .unset, .unset, .unset, .unset, .unset, .unset, .unset, .unset, .unset] [(.int (2 : Int32)), (.ref (n0 + a39))])) _
    refine XS.iconst X41.here hx rfl (hb hby at_272) ?_
    show Steps p.tables e below (T41.setTop (mkF m 273 #[.val (.int i0), .val (.int i1), .val (.int i2), .val (.int i3), .val (.int i4), .val (.int i5), .val (.int i6), .val (.int i7), .val (.int i8), .val (.int i9), .val (.int i10), .val (.int i11), .val (.int i12), .val (.int i13), .val (.int i14), .val (.int i15), .val (.ref (n0 + ob16)), .val (.ref (n0 + ob17)), .val (.ref (n0 + ob18)), .val (.ref (n0 + a39)), .unset, .unset, .unset, .unset, .unset, .unset, .unset, .unset, .unset, .unset, .unset, .unset, .unset, .unset, .unset, .unset] [(.int (-1 : Int32)), (.int (2 : Int32)), (.ref (n0 + a39))])) _
    refine st42 _ ?_
    show Steps p.tables e below (T42.setTop (mkF m 274 #[.val (.int i0), .val (.int i1), .val (.int i2), .val (.int i3), .val (.int i4), .val (.int i5), .val (.int i6), .val (.int i7), .val (.int i8), .val (.int i9), .val (.int i10), .val (.int i11), .val (.int i12), .val (.int i13), .val (.int i14), .val (.int i15), .val (.ref (n0 + ob16)), .val (.ref (n0 + ob17)), .val (.ref (n0 + ob18)), .val (.ref (n0 + a39)), .unset, .unset, .unset, .unset, .unset, .unset, .unset, .unset, .unset, .unset, .unset, .unset, .unset, .unset, .unset, .unset] [])) _
    refine XS.aload X42.here hx rfl (hb hby at_274) rfl rfl ?_
    show Steps p.tables e below (T42.setTop (mkF m 276 #[.val (.int i0), .val (.int i1), .val (.int i2), .val (.int i3), .val (.int i4), .val (.int i5), .val (.int i6), .val (.int i7), .val (.int i8), .val (.int i9), .val (.int i10), .val (.int i11), .val (.int i12), .val (.int i13), .val (.int i14), .val (.int i15), .val (.ref (n0 + ob16)), .val (.ref (n0 + ob17)), .val (.ref (n0 + ob18)), .val (.ref (n0 + a39)), .unset, .unset, .unset, .unset, .unset, .unset, .unset, .unset, .unset, .unset, .unset, .unset, .unset, .unset, .unset, .unset] [(.ref (n0 + a39))])) _
    refine XS.iconst X42.here hx rfl (hb hby at_276) ?_
    show Steps p.tables e below (T42.setTop (mkF m 277 #[.val (.int i0), .val (.int i1), .val (.int i2), .val (.int i3), .val (.int i4), .val (.int i5), .val (.int i6), .val (.int i7), .val (.int i8), .val (.int i9), .val (.int i10), .val (.int i11), .val (.int i12), .val (.int i13), .val (.int i14), .val (.int i15), .val (.ref (n0 + ob16)), .val (.ref (n0 + ob17)), .val (.ref (n0 + ob18)), .val (.ref (n0 + a39)), .unset, .unset, .unset, .unset, .unset, .unset, .unset, .unset, .unset, .unset, .unset, .unset, .unset, .unset, .unset, .unset] [(.int (3 : Int32)), (.ref (n0 + a39))])) _
    refine XS.iconst X42.here hx rfl (hb hby at_277) ?_
    show Steps p.tables e below (T42.setTop (mkF m 278 #[.val (.int i0), .val (.int i1), .val (.int i2), .val (.int i3), .val (.int i4), .val (.int i5), .val (.int i6), .val (.int i7), .val (.int i8), .val (.int i9), .val (.int i10), .val (.int i11), .val (.int i12), .val (.int i13), .val (.int i14), .val (.int i15), .val (.ref (n0 + ob16)), .val (.ref (n0 + ob17)), .val (.ref (n0 + ob18)), .val (.ref (n0 + a39)), .unset, .unset, .unset, .unset, .unset, .unset, .unset, .unset, .unset, .unset, .unset, .unset, .unset, .unset, .unset, .unset] [(.int (-1 : Int32)), (.int (3 : Int32)), (.ref (n0 + a39))])) _
    refine st43 _ ?_
    show Steps p.tables e below (T43.setTop (mkF m 279 #[.val (.int i0), .val (.int i1), .val (.int i2), .val (.int i3), .val (.int i4), .val (.int i5), .val (.int i6), .val (.int i7), .val (.int i8), .val (.int i9), .val (.int i10), .val (.int i11), .val (.int i12), .val (.int i13), .val (.int i14), .val (.int i15), .val (.ref (n0 + ob16)), .val (.ref (n0 + ob17)), .val (.ref (n0 + ob18)), .val (.ref (n0 + a39)), .unset, .unset, .unset, .unset, .unset, .unset, .unset, .unset, .unset, .unset, .unset, .unset, .unset, .unset, .unset, .unset] [])) _
    refine XS.aload X43.here hx rfl (hb hby at_279) rfl rfl ?_
    show Steps p.tables e below (T43.setTop (mkF m 281 #[.val (.int i0), .val (.int i1), .val (.int i2), .val (.int i3), .val (.int i4), .val (.int i5), .val (.int i6), .val (.int i7), .val (.int i8), .val (.int i9), .val (.int i10), .val (.int i11), .val (.int i12), .val (.int i13), .val (.int i14), .val (.int i15), .val (.ref (n0 + ob16)), .val (.ref (n0 + ob17)), .val (.ref (n0 + ob18)), .val (.ref (n0 + a39)), .unset, .unset, .unset, .unset, .unset, .unset, .unset, .unset, .unset, .unset, .unset, .unset, .unset, .unset, .unset, .unset] [(.ref (n0 + a39))])) _
    refine XS.iconst X43.here hx rfl (hb hby at_281) ?_
    show Steps p.tables e below (T43.setTop (mkF m 282 #[.val (.int i0), .val (.int i1), .val (.int i2), .val (.int i3), .val (.int i4), .val (.int i5), .val (.int i6), .val (.int i7), .val (.int i8), .val (.int i9), .val (.int i10), .val (.int i11), .val (.int i12), .val (.int i13), .val (.int i14), .val (.int i15), .val (.ref (n0 + ob16)), .val (.ref (n0 + ob17)), .val (.ref (n0 + ob18)), .val (.ref (n0 + a39)), .unset, .unset, .unset, .unset, .unset, .unset, .unset, .unset, .unset, .unset, .unset, .unset, .unset, .unset, .unset, .unset] [(.int (4 : Int32)), (.ref (n0 + a39))])) _
    refine XS.iconst X43.here hx rfl (hb hby at_282) ?_
    show Steps p.tables e below (T43.setTop (mkF m 283 #[.val (.int i0), .val (.int i1), .val (.int i2), .val (.int i3), .val (.int i4), .val (.int i5), .val (.int i6), .val (.int i7), .val (.int i8), .val (.int i9), .val (.int i10), .val (.int i11), .val (.int i12), .val (.int i13), .val (.int i14), .val (.int i15), .val (.ref (n0 + ob16)), .val (.ref (n0 + ob17)), .val (.ref (n0 + ob18)), .val (.ref (n0 + a39)), .unset, .unset, .unset, .unset, .unset, .unset, .unset, .unset, .unset, .unset, .unset, .unset, .unset, .unset, .unset, .unset] [(.int (-1 : Int32)), (.int (4 : Int32)), (.ref (n0 + a39))])) _
    refine st44 _ ?_
    show Steps p.tables e below (T44.setTop (mkF m 284 #[.val (.int i0), .val (.int i1), .val (.int i2), .val (.int i3), .val (.int i4), .val (.int i5), .val (.int i6), .val (.int i7), .val (.int i8), .val (.int i9), .val (.int i10), .val (.int i11), .val (.int i12), .val (.int i13), .val (.int i14), .val (.int i15), .val (.ref (n0 + ob16)), .val (.ref (n0 + ob17)), .val (.ref (n0 + ob18)), .val (.ref (n0 + a39)), .unset, .unset, .unset, .unset, .unset, .unset, .unset, .unset, .unset, .unset, .unset, .unset, .unset, .unset, .unset, .unset] [])) _
    refine XS.aload X44.here hx rfl (hb hby at_284) rfl rfl ?_
    show Steps p.tables e below (T44.setTop (mkF m 286 #[.val (.int i0), .val (.int i1), .val (.int i2), .val (.int i3), .val (.int i4), .val (.int i5), .val (.int i6), .val (.int i7), .val (.int i8), .val (.int i9), .val (.int i10), .val (.int i11), .val (.int i12), .val (.int i13), .val (.int i14), .val (.int i15), .val (.ref (n0 + ob16)), .val (.ref (n0 + ob17)), .val (.ref (n0 + ob18)), .val (.ref (n0 + a39)), .unset, .unset, .unset, .unset, .unset, .unset, .unset, .unset, .unset, .unset, .unset, .unset, .unset, .unset, .unset, .unset] [(.ref (n0 + a39))])) _
    refine XS.iconst X44.here hx rfl (hb hby at_286) ?_
    show Steps p.tables e below (T44.setTop (mkF m 287 #[.val (.int i0), .val (.int i1), .val (.int i2), .val (.int i3), .val (.int i4), .val (.int i5), .val (.int i6), .val (.int i7), .val (.int i8), .val (.int i9), .val (.int i10), .val (.int i11), .val (.int i12), .val (.int i13), .val (.int i14), .val (.int i15), .val (.ref (n0 + ob16)), .val (.ref (n0 + ob17)), .val (.ref (n0 + ob18)), .val (.ref (n0 + a39)), .unset, .unset, .unset, .unset, .unset, .unset, .unset, .unset, .unset, .unset, .unset, .unset, .unset, .unset, .unset, .unset] [(.int (5 : Int32)), (.ref (n0 + a39))])) _
    refine XS.iconst X44.here hx rfl (hb hby at_287) ?_
    show Steps p.tables e below (T44.setTop (mkF m 288 #[.val (.int i0), .val (.int i1), .val (.int i2), .val (.int i3), .val (.int i4), .val (.int i5), .val (.int i6), .val (.int i7), .val (.int i8), .val (.int i9), .val (.int i10), .val (.int i11), .val (.int i12), .val (.int i13), .val (.int i14), .val (.int i15), .val (.ref (n0 + ob16)), .val (.ref (n0 + ob17)), .val (.ref (n0 + ob18)), .val (.ref (n0 + a39)), .unset, .unset, .unset, .unset, .unset, .unset, .unset, .unset, .unset, .unset, .unset, .unset, .unset, .unset, .unset, .unset] [(.int (-1 : Int32)), (.int (5 : Int32)), (.ref (n0 + a39))])) _
    refine st45 _ ?_
    show Steps p.tables e below (T45.setTop (mkF m 289 #[.val (.int i0), .val (.int i1), .val (.int i2), .val (.int i3), .val (.int i4), .val (.int i5), .val (.int i6), .val (.int i7), .val (.int i8), .val (.int i9), .val (.int i10), .val (.int i11), .val (.int i12), .val (.int i13), .val (.int i14), .val (.int i15), .val (.ref (n0 + ob16)), .val (.ref (n0 + ob17)), .val (.ref (n0 + ob18)), .val (.ref (n0 + a39)), .unset, .unset, .unset, .unset, .unset, .unset, .unset, .unset, .unset, .unset, .unset, .unset, .unset, .unset, .unset, .unset] [])) _
    refine XS.aload X45.here hx rfl (hb hby at_289) rfl rfl ?_
    show Steps p.tables e below (T45.setTop (mkF m 291 #[.val (.int i0), .val (.int i1), .val (.int i2), .val (.int i3), .val (.int i4), .val (.int i5), .val (.int i6), .val (.int i7), .val (.int i8), .val (.int i9), .val (.int i10), .val (.int i11), .val (.int i12), .val (.int i13), .val (.int i14), .val (.int i15), .val (.ref (n0 + ob16)), .val (.ref (n0 + ob17)), .val (.ref (n0 + ob18)), .val (.ref (n0 + a39)), .unset, .unset, .unset, .unset, .unset, .unset, .unset, .unset, .unset, .unset, .unset, .unset, .unset, .unset, .unset, .unset] [(.ref (n0 + a39))])) _
    refine XS.bipush X45.here hx rfl (hb hby at_291) ?_
    show Steps p.tables e below (T45.setTop (mkF m 293 #[.val (.int i0), .val (.int i1), .val (.int i2), .val (.int i3), .val (.int i4), .val (.int i5), .val (.int i6), .val (.int i7), .val (.int i8), .val (.int i9), .val (.int i10), .val (.int i11), .val (.int i12), .val (.int i13), .val (.int i14), .val (.int i15), .val (.ref (n0 + ob16)), .val (.ref (n0 + ob17)), .val (.ref (n0 + ob18)), .val (.ref (n0 + a39)), .unset, .unset, .unset, .unset, .unset, .unset, .unset, .unset, .unset, .unset, .unset, .unset, .unset, .unset, .unset, .unset] [(.int (6 : Int32)), (.ref (n0 + a39))])) _
    refine XS.iconst X45.here hx rfl (hb hby at_293) ?_
    show Steps p.tables e below (T45.setTop (mkF m 294 #[.val (.int i0), .val (.int i1), .val (.int i2), .val (.int i3), .val (.int i4), .val (.int i5), .val (.int i6), .val (.int i7), .val (.int i8), .val (.int i9), .val (.int i10), .val (.int i11), .val (.int i12), .val (.int i13), .val (.int i14), .val (.int i15), .val (.ref (n0 + ob16)), .val (.ref (n0 + ob17)), .val (.ref (n0 + ob18)), .val (.ref (n0 + a39)), .unset, .unset, .unset, .unset, .unset, .unset, .unset, .unset, .unset, .unset, .unset, .unset, .unset, .unset, .unset, .unset] [(.int (-1 : Int32)), (.int (6 : Int32)), (.ref (n0 + a39))])) _
    refine st46 _ ?_
    show Steps p.tables e below (T46.setTop (mkF m 295 #[.val (.int i0), .val (.int i1), .val (.int i2), .val (.int i3), .val (.int i4), .val (.int i5), .val (.int i6), .val (.int i7), .val (.int i8), .val (.int i9), .val (.int i10), .val (.int i11), .val (.int i12), .val (.int i13), .val (.int i14), .val (.int i15), .val (.ref (n0 + ob16)), .val (.ref (n0 + ob17)), .val (.ref (n0 + ob18)), .val (.ref (n0 + a39)), .unset, .unset, .unset, .unset, .unset, .unset, .unset, .unset, .unset, .unset, .unset, .unset, .unset, .unset, .unset, .unset] [])) _
    refine XS.aload X46.here hx rfl (hb hby at_295) rfl rfl ?_
    show Steps p.tables e below (T46.setTop (mkF m 297 #[.val (.int i0), .val (.int i1), .val (.int i2), .val (.int i3), .val (.int i4), .val (.int i5), .val (.int i6), .val (.int i7), .val (.int i8), .val (.int i9), .val (.int i10), .val (.int i11), .val (.int i12), .val (.int i13), .val (.int i14), .val (.int i15), .val (.ref (n0 + ob16)), .val (.ref (n0 + ob17)), .val (.ref (n0 + ob18)), .val (.ref (n0 + a39)), .unset, .unset, .unset, .unset, .unset, .unset, .unset, .unset, .unset, .unset, .unset, .unset, .unset, .unset, .unset, .unset] [(.ref (n0 + ob17))])) _
    refine XS.aload X46.here hx rfl (hb hby at_297) rfl rfl ?_
    show Steps p.tables e below (T46.setTop (mkF m 299 #[.val (.int i0), .val (.int i1), .val (.int i2), .val (.int i3), .val (.int i4), .val (.int i5), .val (.int i6), .val (.int i7), .val (.int i8), .val (.int i9), .val (.int i10), .val (.int i11), .val (.int i12), .val (.int i13), .val (.int i14), .val (.int i15), .val (.ref (n0 + ob16)), .val (.ref (n0 + ob17)), .val (.ref (n0 + ob18)), .val (.ref (n0 + a39)), .unset, .unset, .unset, .unset, .unset, .unset, .unset, .unset, .unset, .unset, .unset, .unset, .unset, .unset, .unset, .unset] [(.ref (n0 + ob18)), (.ref (n0 + ob17))])) _
    refine XS.iload X46.here hx rfl (hb hby at_299) rfl ?_
    show Steps p.tables e below (T46.setTop (mkF m 301 #[.val (.int i0), .val (.int i1), .val (.int i2), .val (.int i3), .val (.int i4), .val (.int i5), .val (.int i6), .val (.int i7), .val (.int i8), .val (.int i9), .val (.int i10), .val (.int i11), .val (.int i12), .val (.int i13), .val (.int i14), .val (.int i15), .val (.ref (n0 + ob16)), .val (.ref (n0 + ob17)), .val (.ref (n0 + ob18)), .val (.ref (n0 + a39)), .unset, .unset, .unset, .unset, .unset, .unset, .unset, .unset, .unset, .unset, .unset, .unset, .unset, .unset, .unset, .unset] [(.int i11), (.ref (n0 + ob18)), (.ref (n0 + ob17))])) _
    refine XS.aload X46.here hx rfl (hb hby at_301) rfl rfl ?_
    show Steps p.tables e below (T46.setTop (mkF m 303 #[.val (.int i0), .val (.int i1), .val (.int i2), .val (.int i3), .val (.int i4), .val (.int i5), .val (.int i6), .val (.int i7), .val (.int i8), .val (.int i9), .val (.int i10), .val (.int i11), .val (.int i12), .val (.int i13), .val (.int i14), .val (.int i15), .val (.ref (n0 + ob16)), .val (.ref (n0 + ob17)), .val (.ref (n0 + ob18)), .val (.ref (n0 + a39)), .unset, .unset, .unset, .unset, .unset, .unset, .unset, .unset, .unset, .unset, .unset, .unset, .unset, .unset, .unset, .unset] [(.ref (n0 + a39)), (.int i11), (.ref (n0 + ob18)), (.ref (n0 + ob17))])) _
    refine st47 _ ?_
    show Steps p.tables e below (T47.setTop (mkF m 306 #[.val (.int i0), .val (.int i1), .val (.int i2), .val (.int i3), .val (.int i4), .val (.int i5), .val (.int i6), .val (.int i7), .val (.int i8), .val (.int i9), .val (.int i10), .val (.int i11), .val (.int i12), .val (.int i13), .val (.int i14), .val (.int i15), .val (.ref (n0 + ob16)), .val (.ref (n0 + ob17)), .val (.ref (n0 + ob18)), .val (.ref (n0 + a39)), .unset, .unset, .unset, .unset, .unset, .unset, .unset, .unset, .unset, .unset, .unset, .unset, .unset, .unset, .unset, .unset] [])) _
    refine XS.iload X47.here hx rfl (hb hby at_306) rfl ?_
    show Steps p.tables e below (T47.setTop (mkF m 308 #[.val (.int i0), .val (.int i1), .val (.int i2), .val (.int i3), .val (.int i4), .val (.int i5), .val (.int i6), .val (.int i7), .val (.int i8), .val (.int i9), .val (.int i10), .val (.int i11), .val (.int i12), .val (.int i13), .val (.int i14), .val (.int i15), .val (.ref (n0 + ob16)), .val (.ref (n0 + ob17)), .val (.ref (n0 + ob18)), .val (.ref (n0 + a39)), .unset, .unset, .unset, .unset, .unset, .unset, .unset, .unset, .unset, .unset, .unset, .unset, .unset, .unset, .unset, .unset] [(.int i6)])) _
    refine XS.iload X47.here hx rfl (hb hby at_308) rfl ?_
    show Steps p.tables e below (T47.setTop (mkF m 310 #[.val (.int i0), .val (.int i1), .val (.int i2), .val (.int i3), .val (.int i4), .val (.int i5), .val (.int i6), .val (.int i7), .val (.int i8), .val (.int i9), .val (.int i10), .val (.int i11), .val (.int i12), .val (.int i13), .val (.int i14), .val (.int i15), .val (.ref (n0 + ob16)), .val (.ref (n0 + ob17)), .val (.ref (n0 + ob18)), .val (.ref (n0 + a39)), .unset, .unset, .unset, .unset, .unset, .unset, .unset, .unset, .unset, .unset, .unset, .unset, .unset, .unset, .unset, .unset] [(.int i7), (.int i6)])) _
    refine XS.imul X47.here hx rfl (hb hby at_310) rfl ?_
    show Steps p.tables e below (T47.setTop (mkF m 311 #[.val (.int i0), .val (.int i1), .val (.int i2), .val (.int i3), .val (.int i4), .val (.int i5), .val (.int i6), .val (.int i7), .val (.int i8), .val (.int i9), .val (.int i10), .val (.int i11), .val (.int i12), .val (.int i13), .val (.int i14), .val (.int i15), .val (.ref (n0 + ob16)), .val (.ref (n0 + ob17)), .val (.ref (n0 + ob18)), .val (.ref (n0 + a39)), .unset, .unset, .unset, .unset, .unset, .unset, .unset, .unset, .unset, .unset, .unset, .unset, .unset, .unset, .unset, .unset] [(.int (i6 * i7))])) _
    refine own_to (congrArg (fun z => T47.setTop (mkF m 311 #[.val (.int i0), .val (.int i1), .val (.int i2), .val (.int i3), .val (.int i4), .val (.int i5), .val (.int i6), .val (.int i7), .val (.int i8), .val (.int i9), .val (.int i10), .val (.int i11), .val (.int i12), .val (.int i13), .val (.int i14), .val (.int i15), .val (.ref (n0 + ob16)), .val (.ref (n0 + ob17)), .val (.ref (n0 + ob18)), .val (.ref (n0 + a39)), .unset, .unset, .unset, .unset, .unset, .unset, .unset, .unset, .unset, .unset, .unset, .unset, .unset, .unset, .unset, .unset] [(.int z)])) hv49) ?_
    show Steps p.tables e below (T47.setTop (mkF m 311 #[.val (.int i0), .val (.int i1), .val (.int i2), .val (.int i3), .val (.int i4), .val (.int i5), .val (.int i6), .val (.int i7), .val (.int i8), .val (.int i9), .val (.int i10), .val (.int i11), .val (.int i12), .val (.int i13), .val (.int i14), .val (.int i15), .val (.ref (n0 + ob16)), .val (.ref (n0 + ob17)), .val (.ref (n0 + ob18)), .val (.ref (n0 + a39)), .unset, .unset, .unset, .unset, .unset, .unset, .unset, .unset, .unset, .unset, .unset, .unset, .unset, .unset, .unset, .unset] [(.int v49)])) _
    refine XS.istore X47.here hx rfl (hb hby at_311) rfl (l' := #[.val (.int i0), .val (.int i1), .val (.int i2), .val (.int i3), .val (.int i4), .val (.int i5), .val (.int i6), .val (.int i7), .val (.int i8), .val (.int i9), .val (.int i10), .val (.int i11), .val (.int i12), .val (.int i13), .val (.int i14), .val (.int i15), .val (.ref (n0 + ob16)), .val (.ref (n0 + ob17)), .val (.ref (n0 + ob18)), .val (.ref (n0 + a39)), .val (.int v49), .unset, .unset, .unset, .unset, .unset, .unset, .unset, .unset, .unset, .unset, .unset, .unset, .unset, .unset, .unset]) rfl ?_
    show Steps p.tables e below (T47.setTop (mkF m 313 #[.val (.int i0), .val (.int i1), .val (.int i2), .val (.int i3), .val (.int i4), .val (.int i5), .val (.int i6), .val (.int i7), .val (.int i8), .val (.int i9), .val (.int i10), .val (.int i11), .val (.int i12), .val (.int i13), .val (.int i14), .val (.int i15), .val (.ref (n0 + ob16)), .val (.ref (n0 + ob17)), .val (.ref (n0 + ob18)), .val (.ref (n0 + a39)), .val (.int v49), .unset, .unset, .unset, .unset, .unset, .unset, .unset, .unset, .unset, .unset, .unset, .unset, .unset, .unset, .unset] [])) _
    refine XS.iload X47.here hx rfl (hb hby at_313) rfl ?_
    show Steps p.tables e below (T47.setTop (mkF m 315 #[.val (.int i0), .val (.int i1), .val (.int i2), .val (.int i3), .val (.int i4), .val (.int i5), .val (.int i6), .val (.int i7), .val (.int i8), .val (.int i9), .val (.int i10), .val (.int i11), .val (.int i12), .val (.int i13), .val (.int i14), .val (.int i15), .val (.ref (n0 + ob16)), .val (.ref (n0 + ob17)), .val (.ref (n0 + ob18)), .val (.ref (n0 + a39)), .val (.int v49), .unset, .unset, .unset, .unset, .unset, .unset, .unset, .unset, .unset, .unset, .unset, .unset, .unset, .unset, .unset] [(.int i6)])) _
    refine XS.iload X47.here hx rfl (hb hby at_315) rfl ?_
    show Steps p.tables e below (T47.setTop (mkF m 317 #[.val (.int i0), .val (.int i1), .val (.int i2), .val (.int i3), .val (.int i4), .val (.int i5), .val (.int i6), .val (.int i7), .val (.int i8), .val (.int i9), .val (.int i10), .val (.int i11), .val (.int i12), .val (.int i13), .val (.int i14), .val (.int i15), .val (.ref (n0 + ob16)), .val (.ref (n0 + ob17)), .val (.ref (n0 + ob18)), .val (.ref (n0 + a39)), .val (.int v49), .unset, .unset, .unset, .unset, .unset, .unset, .unset, .unset, .unset, .unset, .unset, .unset, .unset, .unset, .unset] [(.int i8), (.int i6)])) _
    refine XS.imul X47.here hx rfl (hb hby at_317) rfl ?_
    show Steps p.tables e below (T47.setTop (mkF m 318 #[.val (.int i0), .val (.int i1), .val (.int i2), .val (.int i3), .val (.int i4), .val (.int i5), .val (.int i6), .val (.int i7), .val (.int i8), .val (.int i9), .val (.int i10), .val (.int i11), .val (.int i12), .val (.int i13), .val (.int i14), .val (.int i15), .val (.ref (n0 + ob16)), .val (.ref (n0 + ob17)), .val (.ref (n0 + ob18)), .val (.ref (n0 + a39)), .val (.int v49), .unset, .unset, .unset, .unset, .unset, .unset, .unset, .unset, .unset, .unset, .unset, .unset, .unset, .unset, .unset] [(.int (i6 * i8))])) _
    refine own_to (congrArg (fun z => T47.setTop (mkF m 318 #[.val (.int i0), .val (.int i1), .val (.int i2), .val (.int i3), .val (.int i4), .val (.int i5), .val (.int i6), .val (.int i7), .val (.int i8), .val (.int i9), .val (.int i10), .val (.int i11), .val (.int i12), .val (.int i13), .val (.int i14), .val (.int i15), .val (.ref (n0 + ob16)), .val (.ref (n0 + ob17)), .val (.ref (n0 + ob18)), .val (.ref (n0 + a39)), .val (.int v49), .unset, .unset, .unset, .unset, .unset, .unset, .unset, .unset, .unset, .unset, .unset, .unset, .unset, .unset, .unset] [(.int z)])) hv50) ?_
    show Steps p.tables e below (T47.setTop (mkF m 318 #[.val (.int i0), .val (.int i1), .val (.int i2), .val (.int i3), .val (.int i4), .val (.int i5), .val (.int i6), .val (.int i7), .val (.int i8), .val (.int i9), .val (.int i10), .val (.int i11), .val (.int i12), .val (.int i13), .val (.int i14), .val (.int i15), .val (.ref (n0 + ob16)), .val (.ref (n0 + ob17)), .val (.ref (n0 + ob18)), .val (.ref (n0 + a39)), .val (.int v49), .unset, .unset, .unset, .unset, .unset, .unset, .unset, .unset, .unset, .unset, .unset, .unset, .unset, .unset, .unset] [(.int v50)])) _
    refine XS.istore X47.here hx rfl (hb hby at_318) rfl (l' := #[.val (.int i0), .val (.int i1), .val (.int i2), .val (.int i3), .val (.int i4), .val (.int i5), .val (.int i6), .val (.int i7), .val (.int i8), .val (.int i9), .val (.int i10), .val (.int i11), .val (.int i12), .val (.int i13), .val (.int i14), .val (.int i15), .val (.ref (n0 + ob16)), .val (.ref (n0 + ob17)), .val (.ref (n0 + ob18)), .val (.ref (n0 + a39)), .val (.int v49), .val (.int v50), .unset, .unset, .unset, .unset, .unset, .unset, .unset, .unset, .unset, .unset, .unset, .unset, .unset, .unset]) rfl ?_
    show Steps p.tables e below (T47.setTop (mkF m 320 #[.val (.int i0), .val (.int i1), .val (.int i2), .val (.int i3), .val (.int i4), .val (.int i5), .val (.int i6), .val (.int i7), .val (.int i8), .val (.int i9), .val (.int i10), .val (.int i11), .val (.int i12), .val (.int i13), .val (.int i14), .val (.int i15), .val (.ref (n0 + ob16)), .val (.ref (n0 + ob17)), .val (.ref (n0 + ob18)), .val (.ref (n0 + a39)), .val (.int v49), .val (.int v50), .unset, .unset, .unset, .unset, .unset, .unset, .unset, .unset, .unset, .unset, .unset, .unset, .unset, .unset] [])) _
    refine XS.iload X47.here hx rfl (hb hby at_320) rfl ?_
    show Steps p.tables e below (T47.setTop (mkF m 322 #[.val (.int i0), .val (.int i1), .val (.int i2), .val (.int i3), .val (.int i4), .val (.int i5), .val (.int i6), .val (.int i7), .val (.int i8), .val (.int i9), .val (.int i10), .val (.int i11), .val (.int i12), .val (.int i13), .val (.int i14), .val (.int i15), .val (.ref (n0 + ob16)), .val (.ref (n0 + ob17)), .val (.ref (n0 + ob18)), .val (.ref (n0 + a39)), .val (.int v49), .val (.int v50), .unset, .unset, .unset, .unset, .unset, .unset, .unset, .unset, .unset, .unset, .unset, .unset, .unset, .unset] [(.int i6)])) _
    refine XS.iload X47.here hx rfl (hb hby at_322) rfl ?_
    show Steps p.tables e below (T47.setTop (mkF m 324 #[.val (.int i0), .val (.int i1), .val (.int i2), .val (.int i3), .val (.int i4), .val (.int i5), .val (.int i6), .val (.int i7), .val (.int i8), .val (.int i9), .val (.int i10), .val (.int i11), .val (.int i12), .val (.int i13), .val (.int i14), .val (.int i15), .val (.ref (n0 + ob16)), .val (.ref (n0 + ob17)), .val (.ref (n0 + ob18)), .val (.ref (n0 + a39)), .val (.int v49), .val (.int v50), .unset, .unset, .unset, .unset, .unset, .unset, .unset, .unset, .unset, .unset, .unset, .unset, .unset, .unset] [(.int i9), (.int i6)])) _
    refine XS.imul X47.here hx rfl (hb hby at_324) rfl ?_
    show Steps p.tables e below (T47.setTop (mkF m 325 #[.val (.int i0), .val (.int i1), .val (.int i2), .val (.int i3), .val (.int i4), .val (.int i5), .val (.int i6), .val (.int i7), .val (.int i8), .val (.int i9), .val (.int i10), .val (.int i11), .val (.int i12), .val (.int i13), .val (.int i14), .val (.int i15), .val (.ref (n0 + ob16)), .val (.ref (n0 + ob17)), .val (.ref (n0 + ob18)), .val (.ref (n0 + a39)), .val (.int v49), .val (.int v50), .unset, .unset, .unset, .unset, .unset, .unset, .unset, .unset, .unset, .unset, .unset, .unset, .unset, .unset] [(.int (i6 * i9))])) _
    refine own_to (congrArg (fun z => T47.setTop (mkF m 325 #[.val (.int i0), .val (.int i1), .val (.int i2), .val (.int i3), .val (.int i4), .val (.int i5), .val (.int i6), .val (.int i7), .val (.int i8), .val (.int i9), .val (.int i10), .val (.int i11), .val (.int i12), .val (.int i13), .val (.int i14), .val (.int i15), .val (.ref (n0 + ob16)), .val (.ref (n0 + ob17)), .val (.ref (n0 + ob18)), .val (.ref (n0 + a39)), .val (.int v49), .val (.int v50), .unset, .unset, .unset, .unset, .unset, .unset, .unset, .unset, .unset, .unset, .unset, .unset, .unset, .unset] [(.int z)])) hv51) ?_
    show Steps p.tables e below (T47.setTop (mkF m 325 #[.val (.int i0), .val (.int i1), .val (.int i2), .val (.int i3), .val (.int i4), .val (.int i5), .val (.int i6), .val (.int i7), .val (.int i8), .val (.int i9), .val (.int i10), .val (.int i11), .val (.int i12), .val (.int i13), .val (.int i14), .val (.int i15), .val (.ref (n0 + ob16)), .val (.ref (n0 + ob17)), .val (.ref (n0 + ob18)), .val (.ref (n0 + a39)), .val (.int v49), .val (.int v50), .unset, .unset, .unset, .unset, .unset, .unset, .unset, .unset, .unset, .unset, .unset, .unset, .unset, .unset] [(.int v51)])) _
    refine XS.istore X47.here hx rfl (hb hby at_325) rfl (l' := #[.val (.int i0), .val (.int i1), .val (.int i2), .val (.int i3), .val (.int i4), .val (.int i5), .val (.int i6), .val (.int i7), .val (.int i8), .val (.int i9), .val (.int i10), .val (.int i11), .val (.int i12), .val (.int i13), .val (.int i14), .val (.int i15), .val (.ref (n0 + ob16)), .val (.ref (n0 + ob17)), .val (.ref (n0 + ob18)), .val (.ref (n0 + a39)), .val (.int v49), .val (.int v50), .val (.int v51), .unset, .unset, .unset, .unset, .unset, .unset, .unset, .unset, .unset, .unset, .unset, .unset, .unset]) rfl ?_
    show Steps p.tables e below (T47.setTop (mkF m 327 #[.val (.int i0), .val (.int i1), .val (.int i2), .val (.int i3), .val (.int i4), .val (.int i5), .val (.int i6), .val (.int i7), .val (.int i8), .val (.int i9), .val (.int i10), .val (.int i11), .val (.int i12), .val (.int i13), .val (.int i14), .val (.int i15), .val (.ref (n0 + ob16)), .val (.ref (n0 + ob17)), .val (.ref (n0 + ob18)), .val (.ref (n0 + a39)), .val (.int v49), .val (.int v50), .val (.int v51), .unset, .unset, .unset, .unset, .unset, .unset, .unset, .unset, .unset, .unset, .unset, .unset, .unset] [])) _
    refine XS.iload X47.here hx rfl (hb hby at_327) rfl ?_
    show Steps p.tables e below (T47.setTop (mkF m 329 #[.val (.int i0), .val (.int i1), .val (.int i2), .val (.int i3), .val (.int i4), .val (.int i5), .val (.int i6), .val (.int i7), .val (.int i8), .val (.int i9), .val (.int i10), .val (.int i11), .val (.int i12), .val (.int i13), .val (.int i14), .val (.int i15), .val (.ref (n0 + ob16)), .val (.ref (n0 + ob17)), .val (.ref (n0 + ob18)), .val (.ref (n0 + a39)), .val (.int v49), .val (.int v50), .val (.int v51), .unset, .unset, .unset, .unset, .unset, .unset, .unset, .unset, .unset, .unset, .unset, .unset, .unset] [(.int i7)])) _
    refine XS.iload X47.here hx rfl (hb hby at_329) rfl ?_
    show Steps p.tables e below (T47.setTop (mkF m 331 #[.val (.int i0), .val (.int i1), .val (.int i2), .val (.int i3), .val (.int i4), .val (.int i5), .val (.int i6), .val (.int i7), .val (.int i8), .val (.int i9), .val (.int i10), .val (.int i11), .val (.int i12), .val (.int i13), .val (.int i14), .val (.int i15), .val (.ref (n0 + ob16)), .val (.ref (n0 + ob17)), .val (.ref (n0 + ob18)), .val (.ref (n0 + a39)), .val (.int v49), .val (.int v50), .val (.int v51), .unset, .unset, .unset, .unset, .unset, .unset, .unset, .unset, .unset, .unset, .unset, .unset, .unset] [(.int i8), (.int i7)])) _
    refine XS.imul X47.here hx rfl (hb hby at_331) rfl ?_
    show Steps p.tables e below (T47.setTop (mkF m 332 #[.val (.int i0), .val (.int i1), .val (.int i2), .val (.int i3), .val (.int i4), .val (.int i5), .val (.int i6), .val (.int i7), .val (.int i8), .val (.int i9), .val (.int i10), .val (.int i11), .val (.int i12), .val (.int i13), .val (.int i14), .val (.int i15), .val (.ref (n0 + ob16)), .val (.ref (n0 + ob17)), .val (.ref (n0 + ob18)), .val (.ref (n0 + a39)), .val (.int v49), .val (.int v50), .val (.int v51), .unset, .unset, .unset, .unset, .unset, .unset, .unset, .unset, .unset, .unset, .unset, .unset, .unset] [(.int (i7 * i8))])) _
    refine own_to (congrArg (fun z => T47.setTop (mkF m 332 #[.val (.int i0), .val (.int i1), .val (.int i2), .val (.int i3), .val (.int i4), .val (.int i5), .val (.int i6), .val (.int i7), .val (.int i8), .val (.int i9), .val (.int i10), .val (.int i11), .val (.int i12), .val (.int i13), .val (.int i14), .val (.int i15), .val (.ref (n0 + ob16)), .val (.ref (n0 + ob17)), .val (.ref (n0 + ob18)), .val (.ref (n0 + a39)), .val (.int v49), .val (.int v50), .val (.int v51), .unset, .unset, .unset, .unset, .unset, .unset, .unset, .unset, .unset, .unset, .unset, .unset, .unset] [(.int z)])) hv52) ?_
    show Steps p.tables e below (T47.setTop (mkF m 332 #[.val (.int i0), .val (.int i1), .val (.int i2), .val (.int i3), .val (.int i4), .val (.int i5), .val (.int i6), .val (.int i7), .val (.int i8), .val (.int i9), .val (.int i10), .val (.int i11), .val (.int i12), .val (.int i13), .val (.int i14), .val (.int i15), .val (.ref (n0 + ob16)), .val (.ref (n0 + ob17)), .val (.ref (n0 + ob18)), .val (.ref (n0 + a39)), .val (.int v49), .val (.int v50), .val (.int v51), .unset, .unset, .unset, .unset, .unset, .unset, .unset, .unset, .unset, .unset, .unset, .unset, .unset] [(.int v52)])) _
    refine XS.istore X47.here hx rfl (hb hby at_332) rfl (l' := #[.val (.int i0), .val (.int i1), .val (.int i2), .val (.int i3), .val (.int i4), .val (.int i5), .val (.int i6), .val (.int i7), .val (.int i8), .val (.int i9), .val (.int i10), .val (.int i11), .val (.int i12), .val (.int i13), .val (.int i14), .val (.int i15), .val (.ref (n0 + ob16)), .val (.ref (n0 + ob17)), .val (.ref (n0 + ob18)), .val (.ref (n0 + a39)), .val (.int v49), .val (.int v50), .val (.int v51), .val (.int v52), .unset, .unset, .unset, .unset, .unset, .unset, .unset, .unset, .unset, .unset, .unset, .unset]) rfl ?_
    show Steps p.tables e below (T47.setTop (mkF m 334 #[.val (.int i0), .val (.int i1), .val (.int i2), .val (.int i3), .val (.int i4), .val (.int i5), .val (.int i6), .val (.int i7), .val (.int i8), .val (.int i9), .val (.int i10), .val (.int i11), .val (.int i12), .val (.int i13), .val (.int i14), .val (.int i15), .val (.ref (n0 + ob16)), .val (.ref (n0 + ob17)), .val (.ref (n0 + ob18)), .val (.ref (n0 + a39)), .val (.int v49), .val (.int v50), .val (.int v51), .val (.int v52), .unset, .unset, .unset, .unset, .unset, .unset, .unset, .unset, .unset, .unset, .unset, .unset] [])) _
    refine XS.iload X47.here hx rfl (hb hby at_334) rfl ?_
    show Steps p.tables e below (T47.setTop (mkF m 336 #[.val (.int i0), .val (.int i1), .val (.int i2), .val (.int i3), .val (.int i4), .val (.int i5), .val (.int i6), .val (.int i7), .val (.int i8), .val (.int i9), .val (.int i10), .val (.int i11), .val (.int i12), .val (.int i13), .val (.int i14), .val (.int i15), .val (.ref (n0 + ob16)), .val (.ref (n0 + ob17)), .val (.ref (n0 + ob18)), .val (.ref (n0 + a39)), .val (.int v49), .val (.int v50), .val (.int v51), .val (.int v52), .unset, .unset, .unset, .unset, .unset, .unset, .unset, .unset, .unset, .unset, .unset, .unset] [(.int i7)])) _
    refine XS.iload X47.here hx rfl (hb hby at_336) rfl ?_
    show Steps p.tables e below (T47.setTop (mkF m 338 #[.val (.int i0), .val (.int i1), .val (.int i2), .val (.int i3), .val (.int i4), .val (.int i5), .val (.int i6), .val (.int i7), .val (.int i8), .val (.int i9), .val (.int i10), .val (.int i11), .val (.int i12), .val (.int i13), .val (.int i14), .val (.int i15), .val (.ref (n0 + ob16)), .val (.ref (n0 + ob17)), .val (.ref (n0 + ob18)), .val (.ref (n0 + a39)), .val (.int v49), .val (.int v50), .val (.int v51), .val (.int v52), .unset, .unset, .unset, .unset, .unset, .unset, .unset, .unset, .unset, .unset, .unset, .unset] [(.int i9), (.int i7)])) _
    refine XS.imul X47.here hx rfl (hb hby at_338) rfl ?_
    show Steps p.tables e below (T47.setTop (mkF m 339 #[.val (.int i0), .val (.int i1), .val (.int i2), .val (.int i3), .val (.int i4), .val (.int i5), .val (.int i6), .val (.int i7), .val (.int i8), .val (.int i9), .val (.int i10), .val (.int i11), .val (.int i12), .val (.int i13), .val (.int i14), .val (.int i15), .val (.ref (n0 + ob16)), .val (.ref (n0 + ob17)), .val (.ref (n0 + ob18)), .val (.ref (n0 + a39)), .val (.int v49), .val (.int v50), .val (.int v51), .val (.int v52), .unset, .unset, .unset, .unset, .unset, .unset, .unset, .unset, .unset, .unset, .unset, .unset] [(.int (i7 * i9))])) _
    refine own_to (congrArg (fun z => T47.setTop (mkF m 339 #[.val (.int i0), .val (.int i1), .val (.int i2), .val (.int i3), .val (.int i4), .val (.int i5), .val (.int i6), .val (.int i7), .val (.int i8), .val (.int i9), .val (.int i10), .val (.int i11), .val (.int i12), .val (.int i13), .val (.int i14), .val (.int i15), .val (.ref (n0 + ob16)), .val (.ref (n0 + ob17)), .val (.ref (n0 + ob18)), .val (.ref (n0 + a39)), .val (.int v49), .val (.int v50), .val (.int v51), .val (.int v52), .unset, .unset, .unset, .unset, .unset, .unset, .unset, .unset, .unset, .unset, .unset, .unset] [(.int z)])) hv53) ?_
    show Steps p.tables e below (T47.setTop (mkF m 339 #[.val (.int i0), .val (.int i1), .val (.int i2), .val (.int i3), .val (.int i4), .val (.int i5), .val (.int i6), .val (.int i7), .val (.int i8), .val (.int i9), .val (.int i10), .val (.int i11), .val (.int i12), .val (.int i13), .val (.int i14), .val (.int i15), .val (.ref (n0 + ob16)), .val (.ref (n0 + ob17)), .val (.ref (n0 + ob18)), .val (.ref (n0 + a39)), .val (.int v49), .val (.int v50), .val (.int v51), .val (.int v52), .unset, .unset, .unset, .unset, .unset, .unset, .unset, .unset, .unset, .unset, .unset, .unset] [(.int v53)])) _
    refine XS.istore X47.here hx rfl (hb hby at_339) rfl (l' := #[.val (.int i0), .val (.int i1), .val (.int i2), .val (.int i3), .val (.int i4), .val (.int i5), .val (.int i6), .val (.int i7), .val (.int i8), .val (.int i9), .val (.int i10), .val (.int i11), .val (.int i12), .val (.int i13), .val (.int i14), .val (.int i15), .val (.ref (n0 + ob16)), .val (.ref (n0 + ob17)), .val (.ref (n0 + ob18)), .val (.ref (n0 + a39)), .val (.int v49), .val (.int v50), .val (.int v51), .val (.int v52), .val (.int v53), .unset, .unset, .unset, .unset, .unset, .unset, .unset, .unset, .unset, .unset, .unset]) rfl ?_
    show Steps p.tables e below (T47.setTop (mkF m 341 #[.val (.int i0), .val (.int i1), .val (.int i2), .val (.int i3), .val (.int i4), .val (.int i5), .val (.int i6), .val (.int i7), .val (.int i8), .val (.int i9), .val (.int i10), .val (.int i11), .val (.int i12), .val (.int i13), .val (.int i14), .val (.int i15), .val (.ref (n0 + ob16)), .val (.ref (n0 + ob17)), .val (.ref (n0 + ob18)), .val (.ref (n0 + a39)), .val (.int v49), .val (.int v50), .val (.int v51), .val (.int v52), .val (.int v53), .unset, .unset, .unset, .unset, .unset, .unset, .unset, .unset, .unset, .unset, .unset] [])) _
    refine XS.iload X47.here hx rfl (hb hby at_341) rfl ?_
    show Steps p.tables e below (T47.setTop (mkF m 343 #[.val (.int i0), .val (.int i1), .val (.int i2), .val (.int i3), .val (.int i4), .val (.int i5), .val (.int i6), .val (.int i7), .val (.int i8), .val (.int i9), .val (.int i10), .val (.int i11), .val (.int i12), .val (.int i13), .val (.int i14), .val (.int i15), .val (.ref (n0 + ob16)), .val (.ref (n0 + ob17)), .val (.ref (n0 + ob18)), .val (.ref (n0 + a39)), .val (.int v49), .val (.int v50), .val (.int v51), .val (.int v52), .val (.int v53), .unset, .unset, .unset, .unset, .unset, .unset, .unset, .unset, .unset, .unset, .unset] [(.int v49)])) _
    refine XS.istore X47.here hx rfl (hb hby at_343) rfl (l' := #[.val (.int i0), .val (.int i1), .val (.int i2), .val (.int i3), .val (.int i4), .val (.int i5), .val (.int i6), .val (.int i7), .val (.int i8), .val (.int i9), .val (.int i10), .val (.int i11), .val (.int i12), .val (.int i13), .val (.int i14), .val (.int i15), .val (.ref (n0 + ob16)), .val (.ref (n0 + ob17)), .val (.ref (n0 + ob18)), .val (.ref (n0 + a39)), .val (.int v49), .val (.int v50), .val (.int v51), .val (.int v52), .val (.int v53), .val (.int v49), .unset, .unset, .unset, .unset, .unset, .unset, .unset, .unset, .unset, .unset]) rfl ?_
    show Steps p.tables e below (T47.setTop (mkF m 345 #[.val (.int i0), .val (.int i1), .val (.int i2), .val (.int i3), .val (.int i4), .val (.int i5), .val (.int i6), .val (.int i7), .val (.int i8), .val (.int i9), .val (.int i10), .val (.int i11), .val (.int i12), .val (.int i13), .val (.int i14), .val (.int i15), .val (.ref (n0 + ob16)), .val (.ref (n0 + ob17)), .val (.ref (n0 + ob18)), .val (.ref (n0 + a39)), .val (.int v49), .val (.int v50), .val (.int v51), .val (.int v52), .val (.int v53), .val (.int v49), .unset, .unset, .unset, .unset, .unset, .unset, .unset, .unset, .unset, .unset] [])) _
    refine XS.iload X47.here hx rfl (hb hby at_345) rfl ?_
    show Steps p.tables e below (T47.setTop (mkF m 347 #[.val (.int i0), .val (.int i1), .val (.int i2), .val (.int i3), .val (.int i4), .val (.int i5), .val (.int i6), .val (.int i7), .val (.int i8), .val (.int i9), .val (.int i10), .val (.int i11), .val (.int i12), .val (.int i13), .val (.int i14), .val (.int i15), .val (.ref (n0 + ob16)), .val (.ref (n0 + ob17)), .val (.ref (n0 + ob18)), .val (.ref (n0 + a39)), .val (.int v49), .val (.int v50), .val (.int v51), .val (.int v52), .val (.int v53), .val (.int v49), .unset, .unset, .unset, .unset, .unset, .unset, .unset, .unset, .unset, .unset] [(.int v49)])) _
    refine XS.iload X47.here hx rfl (hb hby at_347) rfl ?_
    show Steps p.tables e below (T47.setTop (mkF m 349 #[.val (.int i0), .val (.int i1), .val (.int i2), .val (.int i3), .val (.int i4), .val (.int i5), .val (.int i6), .val (.int i7), .val (.int i8), .val (.int i9), .val (.int i10), .val (.int i11), .val (.int i12), .val (.int i13), .val (.int i14), .val (.int i15), .val (.ref (n0 + ob16)), .val (.ref (n0 + ob17)), .val (.ref (n0 + ob18)), .val (.ref (n0 + a39)), .val (.int v49), .val (.int v50), .val (.int v51), .val (.int v52), .val (.int v53), .val (.int v49), .unset, .unset, .unset, .unset, .unset, .unset, .unset, .unset, .unset, .unset] [(.int v50), (.int v49)])) _
    refine XS.iadd X47.here hx rfl (hb hby at_349) rfl ?_
    show Steps p.tables e below (T47.setTop (mkF m 350 #[.val (.int i0), .val (.int i1), .val (.int i2), .val (.int i3), .val (.int i4), .val (.int i5), .val (.int i6), .val (.int i7), .val (.int i8), .val (.int i9), .val (.int i10), .val (.int i11), .val (.int i12), .val (.int i13), .val (.int i14), .val (.int i15), .val (.ref (n0 + ob16)), .val (.ref (n0 + ob17)), .val (.ref (n0 + ob18)), .val (.ref (n0 + a39)), .val (.int v49), .val (.int v50), .val (.int v51), .val (.int v52), .val (.int v53), .val (.int v49), .unset, .unset, .unset, .unset, .unset, .unset, .unset, .unset, .unset, .unset] [(.int (v49 + v50))])) _
    refine own_to (congrArg (fun z => T47.setTop (mkF m 350 #[.val (.int i0), .val (.int i1), .val (.int i2), .val (.int i3), .val (.int i4), .val (.int i5), .val (.int i6), .val (.int i7), .val (.int i8), .val (.int i9), .val (.int i10), .val (.int i11), .val (.int i12), .val (.int i13), .val (.int i14), .val (.int i15), .val (.ref (n0 + ob16)), .val (.ref (n0 + ob17)), .val (.ref (n0 + ob18)), .val (.ref (n0 + a39)), .val (.int v49), .val (.int v50), .val (.int v51), .val (.int v52), .val (.int v53), .val (.int v49), .unset, .unset, .unset, .unset, .unset, .unset, .unset, .unset, .unset, .unset] [(.int z)])) hv54) ?_
    show Steps p.tables e below (T47.setTop (mkF m 350 #[.val (.int i0), .val (.int i1), .val (.int i2), .val (.int i3), .val (.int i4), .val (.int i5), .val (.int i6), .val (.int i7), .val (.int i8), .val (.int i9), .val (.int i10), .val (.int i11), .val (.int i12), .val (.int i13), .val (.int i14), .val (.int i15), .val (.ref (n0 + ob16)), .val (.ref (n0 + ob17)), .val (.ref (n0 + ob18)), .val (.ref (n0 + a39)), .val (.int v49), .val (.int v50), .val (.int v51), .val (.int v52), .val (.int v53), .val (.int v49), .unset, .unset, .unset, .unset, .unset, .unset, .unset, .unset, .unset, .unset] [(.int v54)])) _
    refine XS.istore X47.here hx rfl (hb hby at_350) rfl (l' := #[.val (.int i0), .val (.int i1), .val (.int i2), .val (.int i3), .val (.int i4), .val (.int i5), .val (.int i6), .val (.int i7), .val (.int i8), .val (.int i9), .val (.int i10), .val (.int i11), .val (.int i12), .val (.int i13), .val (.int i14), .val (.int i15), .val (.ref (n0 + ob16)), .val (.ref (n0 + ob17)), .val (.ref (n0 + ob18)), .val (.ref (n0 + a39)), .val (.int v49), .val (.int v50), .val (.int v51), .val (.int v52), .val (.int v53), .val (.int v49), .val (.int v54), .unset, .unset, .unset, .unset, .unset, .unset, .unset, .unset, .unset]) rfl ?_
    show Steps p.tables e below (T47.setTop (mkF m 352 #[.val (.int i0), .val (.int i1), .val (.int i2), .val (.int i3), .val (.int i4), .val (.int i5), .val (.int i6), .val (.int i7), .val (.int i8), .val (.int i9), .val (.int i10), .val (.int i11), .val (.int i12), .val (.int i13), .val (.int i14), .val (.int i15), .val (.ref (n0 + ob16)), .val (.ref (n0 + ob17)), .val (.ref (n0 + ob18)), .val (.ref (n0 + a39)), .val (.int v49), .val (.int v50), .val (.int v51), .val (.int v52), .val (.int v53), .val (.int v49), .val (.int v54), .unset, .unset, .unset, .unset, .unset, .unset, .unset, .unset, .unset] [])) _
    refine XS.iload X47.here hx rfl (hb hby at_352) rfl ?_
    show Steps p.tables e below (T47.setTop (mkF m 354 #[.val (.int i0), .val (.int i1), .val (.int i2), .val (.int i3), .val (.int i4), .val (.int i5), .val (.int i6), .val (.int i7), .val (.int i8), .val (.int i9), .val (.int i10), .val (.int i11), .val (.int i12), .val (.int i13), .val (.int i14), .val (.int i15), .val (.ref (n0 + ob16)), .val (.ref (n0 + ob17)), .val (.ref (n0 + ob18)), .val (.ref (n0 + a39)), .val (.int v49), .val (.int v50), .val (.int v51), .val (.int v52), .val (.int v53), .val (.int v49), .val (.int v54), .unset, .unset, .unset, .unset, .unset, .unset, .unset, .unset, .unset] [(.int i10)])) _
    refine XS.iconst X47.here hx rfl (hb hby at_354) ?_
    exact k
  by_cases hc55 : i10 = (4 : Int32)
  · rw [if_pos hc55] at hf
    refine Gl.on (B := T47.setTop (mkF m 374 #[.val (.int i0), .val (.int i1), .val (.int i2), .val (.int i3), .val (.int i4), .val (.int i5), .val (.int i6), .val (.int i7), .val (.int i8), .val (.int i9), .val (.int i10), .val (.int i11), .val (.int i12), .val (.int i13), .val (.int i14), .val (.int i15), .val (.ref (n0 + ob16)), .val (.ref (n0 + ob17)), .val (.ref (n0 + ob18)), .val (.ref (n0 + a39)), .val (.int v49), .val (.int v50), .val (.int v51), .val (.int v52), .val (.int v53), .val (.int v49), .val (.int v54), .unset, .unset, .unset, .unset, .unset, .unset, .unset, .unset, .unset] [(.int ((v49 + v50) + v51))])) (fun t k => ?_) ?_
    · show Steps p.tables e below (T47.setTop (mkF m 355 #[.val (.int i0), .val (.int i1), .val (.int i2), .val (.int i3), .val (.int i4), .val (.int i5), .val (.int i6), .val (.int i7), .val (.int i8), .val (.int i9), .val (.int i10), .val (.int i11), .val (.int i12), .val (.int i13), .val (.int i14), .val (.int i15), .val (.ref (n0 + ob16)), .val (.ref (n0 + ob17)), .val (.ref (n0 + ob18)), .val (.ref (n0 + a39)), .val (.int v49), .val (.int v50), .val (.int v51), .val (.int v52), .val (.int v53), .val (.int v49), .val (.int v54), .unset, .unset, .unset, .unset, .unset, .unset, .unset, .unset, .unset] [(.int (4 : Int32)), (.int i10)])) _
      refine XS.icmpNo X47.here hx rfl (hb hby at_355) rfl (teq hc55).2 ?_
      show Steps p.tables e below (T47.setTop (mkF m 358 #[.val (.int i0), .val (.int i1), .val (.int i2), .val (.int i3), .val (.int i4), .val (.int i5), .val (.int i6), .val (.int i7), .val (.int i8), .val (.int i9), .val (.int i10), .val (.int i11), .val (.int i12), .val (.int i13), .val (.int i14), .val (.int i15), .val (.ref (n0 + ob16)), .val (.ref (n0 + ob17)), .val (.ref (n0 + ob18)), .val (.ref (n0 + a39)), .val (.int v49), .val (.int v50), .val (.int v51), .val (.int v52), .val (.int v53), .val (.int v49), .val (.int v54), .unset, .unset, .unset, .unset, .unset, .unset, .unset, .unset, .unset] [])) _
      refine XS.iload X47.here hx rfl (hb hby at_358) rfl ?_
      show Steps p.tables e below (T47.setTop (mkF m 360 #[.val (.int i0), .val (.int i1), .val (.int i2), .val (.int i3), .val (.int i4), .val (.int i5), .val (.int i6), .val (.int i7), .val (.int i8), .val (.int i9), .val (.int i10), .val (.int i11), .val (.int i12), .val (.int i13), .val (.int i14), .val (.int i15), .val (.ref (n0 + ob16)), .val (.ref (n0 + ob17)), .val (.ref (n0 + ob18)), .val (.ref (n0 + a39)), .val (.int v49), .val (.int v50), .val (.int v51), .val (.int v52), .val (.int v53), .val (.int v49), .val (.int v54), .unset, .unset, .unset, .unset, .unset, .unset, .unset, .unset, .unset] [(.int v49)])) _
      refine XS.iload X47.here hx rfl (hb hby at_360) rfl ?_
      show Steps p.tables e below (T47.setTop (mkF m 362 #[.val (.int i0), .val (.int i1), .val (.int i2), .val (.int i3), .val (.int i4), .val (.int i5), .val (.int i6), .val (.int i7), .val (.int i8), .val (.int i9), .val (.int i10), .val (.int i11), .val (.int i12), .val (.int i13), .val (.int i14), .val (.int i15), .val (.ref (n0 + ob16)), .val (.ref (n0 + ob17)), .val (.ref (n0 + ob18)), .val (.ref (n0 + a39)), .val (.int v49), .val (.int v50), .val (.int v51), .val (.int v52), .val (.int v53), .val (.int v49), .val (.int v54), .unset, .unset, .unset, .unset, .unset, .unset, .unset, .unset, .unset] [(.int v50), (.int v49)])) _
      refine XS.iadd X47.here hx rfl (hb hby at_362) rfl ?_
      show Steps p.tables e below (T47.setTop (mkF m 363 #[.val (.int i0), .val (.int i1), .val (.int i2), .val (.int i3), .val (.int i4), .val (.int i5), .val (.int i6), .val (.int i7), .val (.int i8), .val (.int i9), .val (.int i10), .val (.int i11), .val (.int i12), .val (.int i13), .val (.int i14), .val (.int i15), .val (.ref (n0 + ob16)), .val (.ref (n0 + ob17)), .val (.ref (n0 + ob18)), .val (.ref (n0 + a39)), .val (.int v49), .val (.int v50), .val (.int v51), .val (.int v52), .val (.int v53), .val (.int v49), .val (.int v54), .unset, .unset, .unset, .unset, .unset, .unset, .unset, .unset, .unset] [(.int (v49 + v50))])) _
      refine XS.iload X47.here hx rfl (hb hby at_363) rfl ?_
      show Steps p.tables e below (T47.setTop (mkF m 365 #[.val (.int i0), .val (.int i1), .val (.int i2), .val (.int i3), .val (.int i4), .val (.int i5), .val (.int i6), .val (.int i7), .val (.int i8), .val (.int i9), .val (.int i10), .val (.int i11), .val (.int i12), .val (.int i13), .val (.int i14), .val (.int i15), .val (.ref (n0 + ob16)), .val (.ref (n0 + ob17)), .val (.ref (n0 + ob18)), .val (.ref (n0 + a39)), .val (.int v49), .val (.int v50), .val (.int v51), .val (.int v52), .val (.int v53), .val (.int v49), .val (.int v54), .unset, .unset, .unset, .unset, .unset, .unset, .unset, .unset, .unset] [(.int v51), (.int (v49 + v50))])) _
      refine XS.iadd X47.here hx rfl (hb hby at_365) rfl ?_
      show Steps p.tables e below (T47.setTop (mkF m 366 #[.val (.int i0), .val (.int i1), .val (.int i2), .val (.int i3), .val (.int i4), .val (.int i5), .val (.int i6), .val (.int i7), .val (.int i8), .val (.int i9), .val (.int i10), .val (.int i11), .val (.int i12), .val (.int i13), .val (.int i14), .val (.int i15), .val (.ref (n0 + ob16)), .val (.ref (n0 + ob17)), .val (.ref (n0 + ob18)), .val (.ref (n0 + a39)), .val (.int v49), .val (.int v50), .val (.int v51), .val (.int v52), .val (.int v53), .val (.int v49), .val (.int v54), .unset, .unset, .unset, .unset, .unset, .unset, .unset, .unset, .unset] [(.int ((v49 + v50) + v51))])) _
      refine XS.goto X47.here hx rfl (pc0 := 366) (pc' := 374) rfl (hb hby at_366) (by decide) (by decide) ?_
      exact k
    exact bt0_374 hw hC X47 e47 O47 N47 (by omega) (by omega) hf
  · rw [if_neg hc55] at hf
    refine Gl.on (B := T47.setTop (mkF m 374 #[.val (.int i0), .val (.int i1), .val (.int i2), .val (.int i3), .val (.int i4), .val (.int i5), .val (.int i6), .val (.int i7), .val (.int i8), .val (.int i9), .val (.int i10), .val (.int i11), .val (.int i12), .val (.int i13), .val (.int i14), .val (.int i15), .val (.ref (n0 + ob16)), .val (.ref (n0 + ob17)), .val (.ref (n0 + ob18)), .val (.ref (n0 + a39)), .val (.int v49), .val (.int v50), .val (.int v51), .val (.int v52), .val (.int v53), .val (.int v49), .val (.int v54), .unset, .unset, .unset, .unset, .unset, .unset, .unset, .unset, .unset] [(.int (v49 + v50))])) (fun t k => ?_) ?_
    · show Steps p.tables e below (T47.setTop (mkF m 355 #[.val (.int i0), .val (.int i1), .val (.int i2), .val (.int i3), .val (.int i4), .val (.int i5), .val (.int i6), .val (.int i7), .val (.int i8), .val (.int i9), .val (.int i10), .val (.int i11), .val (.int i12), .val (.int i13), .val (.int i14), .val (.int i15), .val (.ref (n0 + ob16)), .val (.ref (n0 + ob17)), .val (.ref (n0 + ob18)), .val (.ref (n0 + a39)), .val (.int v49), .val (.int v50), .val (.int v51), .val (.int v52), .val (.int v53), .val (.int v49), .val (.int v54), .unset, .unset, .unset, .unset, .unset, .unset, .unset, .unset, .unset] [(.int (4 : Int32)), (.int i10)])) _
      refine XS.icmpYes X47.here hx rfl (pc0 := 355) (pc' := 369) rfl (hb hby at_355) rfl (feq hc55).2 (by decide) (by decide) ?_
      show Steps p.tables e below (T47.setTop (mkF m 369 #[.val (.int i0), .val (.int i1), .val (.int i2), .val (.int i3), .val (.int i4), .val (.int i5), .val (.int i6), .val (.int i7), .val (.int i8), .val (.int i9), .val (.int i10), .val (.int i11), .val (.int i12), .val (.int i13), .val (.int i14), .val (.int i15), .val (.ref (n0 + ob16)), .val (.ref (n0 + ob17)), .val (.ref (n0 + ob18)), .val (.ref (n0 + a39)), .val (.int v49), .val (.int v50), .val (.int v51), .val (.int v52), .val (.int v53), .val (.int v49), .val (.int v54), .unset, .unset, .unset, .unset, .unset, .unset, .unset, .unset, .unset] [])) _
      refine XS.iload X47.here hx rfl (hb hby at_369) rfl ?_
      show Steps p.tables e below (T47.setTop (mkF m 371 #[.val (.int i0), .val (.int i1), .val (.int i2), .val (.int i3), .val (.int i4), .val (.int i5), .val (.int i6), .val (.int i7), .val (.int i8), .val (.int i9), .val (.int i10), .val (.int i11), .val (.int i12), .val (.int i13), .val (.int i14), .val (.int i15), .val (.ref (n0 + ob16)), .val (.ref (n0 + ob17)), .val (.ref (n0 + ob18)), .val (.ref (n0 + a39)), .val (.int v49), .val (.int v50), .val (.int v51), .val (.int v52), .val (.int v53), .val (.int v49), .val (.int v54), .unset, .unset, .unset, .unset, .unset, .unset, .unset, .unset, .unset] [(.int v49)])) _
      refine XS.iload X47.here hx rfl (hb hby at_371) rfl ?_
      show Steps p.tables e below (T47.setTop (mkF m 373 #[.val (.int i0), .val (.int i1), .val (.int i2), .val (.int i3), .val (.int i4), .val (.int i5), .val (.int i6), .val (.int i7), .val (.int i8), .val (.int i9), .val (.int i10), .val (.int i11), .val (.int i12), .val (.int i13), .val (.int i14), .val (.int i15), .val (.ref (n0 + ob16)), .val (.ref (n0 + ob17)), .val (.ref (n0 + ob18)), .val (.ref (n0 + a39)), .val (.int v49), .val (.int v50), .val (.int v51), .val (.int v52), .val (.int v53), .val (.int v49), .val (.int v54), .unset, .unset, .unset, .unset, .unset, .unset, .unset, .unset, .unset] [(.int v50), (.int v49)])) _
      refine XS.iadd X47.here hx rfl (hb hby at_373) rfl ?_
      exact k
    exact bt0_374 hw hC X47 e47 O47 N47 (by omega) (by omega) hf
def b0_238 (D : Hp) (i6 : Int32) (i7 : Int32) (i8 : Int32) (i9 : Int32) (i10 : Int32) (i11 : Int32) (i12 : Int32) (i13 : Int32) (i14 : Int32) (i15 : Int32) (ob17 : Nat) (ob18 : Nat) : Option (Int32 × Hp) :=
  if i10 < (4 : Int32) then (b0_253 D i6 i7 i8 i9 i10 i11 i12 i13 i14 i15 ob17 ob18) else ((wV D ob18 0 (i11 + (3 : Int32)) (.int i15)).bind fun D38 =>
  b0_253 D38 i6 i7 i8 i9 i10 i11 i12 i13 i14 i15 ob17 ob18)
set_option maxRecDepth 65536 in
set_option maxHeartbeats 40000000 in
theorem bt0_238 {p : Program} {l : Launch} {e : Env} {s : State} {m : MethodId} {args : Array Value} {below : List Frame} {meth : Method} {c : Code} {Z : State} {a0 : Array Value} {n0 : Nat} {D' : Hp} {r : Int32} {T0 : State} {locs : List Loc} {cells slots : Nat} {h0 : Heap} {D : Hp} {i0 : Int32} {i1 : Int32} {i2 : Int32} {i3 : Int32} {i4 : Int32} {i5 : Int32} {i6 : Int32} {i7 : Int32} {i8 : Int32} {i9 : Int32} {i10 : Int32} {i11 : Int32} {i12 : Int32} {i13 : Int32} {i14 : Int32} {i15 : Int32} {ob16 : Nat} {ob17 : Nat} {ob18 : Nat} (hw : ∀ d ∈ tables_1, d.before a0 Z = true) (hC : Cx p s m meth c Z code maxLocals ret "com/example/pathweave/pathweave/core/PairIndexPairsOfPinLaw" "law") (X0 : Stand p l e room_1 s m args below meth c T0 locs cells slots) (e0 : T0.heap = h0) (O0 : Ow Kt1 Z h0 n0 D) (N0 : Fr n0 locs) (hcc : cells ≤ 6) (hss : slots ≤ 44) (hf : b0_238 D i6 i7 i8 i9 i10 i11 i12 i13 i14 i15 ob17 ob18 = some (r, D')) : Gl p e below s 24 192 (Qw Kt1 Z n0 (some (.int r)) D') (T0.setTop (mkF m 238 #[.val (.int i0), .val (.int i1), .val (.int i2), .val (.int i3), .val (.int i4), .val (.int i5), .val (.int i6), .val (.int i7), .val (.int i8), .val (.int i9), .val (.int i10), .val (.int i11), .val (.int i12), .val (.int i13), .val (.int i14), .val (.int i15), .val (.ref (n0 + ob16)), .val (.ref (n0 + ob17)), .val (.ref (n0 + ob18)), .unset, .unset, .unset, .unset, .unset, .unset, .unset, .unset, .unset, .unset, .unset, .unset, .unset, .unset, .unset, .unset, .unset] [])) := by
  obtain ⟨hx, hZ, hby, hml, hown, hnm, hret, hlk⟩ := id hC
  have hml : c.maxLocals = 36 := hml
  rw [b0_238] at hf
  refine Gl.on (B := T0.setTop (mkF m 241 #[.val (.int i0), .val (.int i1), .val (.int i2), .val (.int i3), .val (.int i4), .val (.int i5), .val (.int i6), .val (.int i7), .val (.int i8), .val (.int i9), .val (.int i10), .val (.int i11), .val (.int i12), .val (.int i13), .val (.int i14), .val (.int i15), .val (.ref (n0 + ob16)), .val (.ref (n0 + ob17)), .val (.ref (n0 + ob18)), .unset, .unset, .unset, .unset, .unset, .unset, .unset, .unset, .unset, .unset, .unset, .unset, .unset, .unset, .unset, .unset, .unset] [(.int (4 : Int32)), (.int i10)])) (fun t k => ?_) ?_
  · show Steps p.tables e below (T0.setTop (mkF m 238 #[.val (.int i0), .val (.int i1), .val (.int i2), .val (.int i3), .val (.int i4), .val (.int i5), .val (.int i6), .val (.int i7), .val (.int i8), .val (.int i9), .val (.int i10), .val (.int i11), .val (.int i12), .val (.int i13), .val (.int i14), .val (.int i15), .val (.ref (n0 + ob16)), .val (.ref (n0 + ob17)), .val (.ref (n0 + ob18)), .unset, .unset, .unset, .unset, .unset, .unset, .unset, .unset, .unset, .unset, .unset, .unset, .unset, .unset, .unset, .unset, .unset] [])) _
    refine XS.iload X0.here hx rfl (hb hby at_238) rfl ?_
    show Steps p.tables e below (T0.setTop (mkF m 240 #[.val (.int i0), .val (.int i1), .val (.int i2), .val (.int i3), .val (.int i4), .val (.int i5), .val (.int i6), .val (.int i7), .val (.int i8), .val (.int i9), .val (.int i10), .val (.int i11), .val (.int i12), .val (.int i13), .val (.int i14), .val (.int i15), .val (.ref (n0 + ob16)), .val (.ref (n0 + ob17)), .val (.ref (n0 + ob18)), .unset, .unset, .unset, .unset, .unset, .unset, .unset, .unset, .unset, .unset, .unset, .unset, .unset, .unset, .unset, .unset, .unset] [(.int i10)])) _
    refine XS.iconst X0.here hx rfl (hb hby at_240) ?_
    exact k
  by_cases hc37 : i10 < (4 : Int32)
  · rw [if_pos hc37] at hf
    refine Gl.on (B := T0.setTop (mkF m 253 #[.val (.int i0), .val (.int i1), .val (.int i2), .val (.int i3), .val (.int i4), .val (.int i5), .val (.int i6), .val (.int i7), .val (.int i8), .val (.int i9), .val (.int i10), .val (.int i11), .val (.int i12), .val (.int i13), .val (.int i14), .val (.int i15), .val (.ref (n0 + ob16)), .val (.ref (n0 + ob17)), .val (.ref (n0 + ob18)), .unset, .unset, .unset, .unset, .unset, .unset, .unset, .unset, .unset, .unset, .unset, .unset, .unset, .unset, .unset, .unset, .unset] [])) (fun t k => ?_) ?_
    · show Steps p.tables e below (T0.setTop (mkF m 241 #[.val (.int i0), .val (.int i1), .val (.int i2), .val (.int i3), .val (.int i4), .val (.int i5), .val (.int i6), .val (.int i7), .val (.int i8), .val (.int i9), .val (.int i10), .val (.int i11), .val (.int i12), .val (.int i13), .val (.int i14), .val (.int i15), .val (.ref (n0 + ob16)), .val (.ref (n0 + ob17)), .val (.ref (n0 + ob18)), .unset, .unset, .unset, .unset, .unset, .unset, .unset, .unset, .unset, .unset, .unset, .unset, .unset, .unset, .unset, .unset, .unset] [(.int (4 : Int32)), (.int i10)])) _
      refine XS.icmpYes X0.here hx rfl (pc0 := 241) (pc' := 253) rfl (hb hby at_241) rfl (tlt hc37).1 (by decide) (by decide) ?_
      exact k
    exact bt0_253 hw hC X0 e0 O0 N0 (by omega) (by omega) hf
  · rw [if_neg hc37] at hf
    obtain ⟨D38, hq38, hf⟩ := own_bind hf
    obtain ⟨T38, h38, L38, X38, e38, O38, N38, st38⟩ := stIW X0 hx hZ e0 O0 N0 hq38 rfl (g := (mkF m 252 #[.val (.int i0), .val (.int i1), .val (.int i2), .val (.int i3), .val (.int i4), .val (.int i5), .val (.int i6), .val (.int i7), .val (.int i8), .val (.int i9), .val (.int i10), .val (.int i11), .val (.int i12), .val (.int i13), .val (.int i14), .val (.int i15), .val (.ref (n0 + ob16)), .val (.ref (n0 + ob17)), .val (.ref (n0 + ob18)), .unset, .unset, .unset, .unset, .unset, .unset, .unset, .unset, .unset, .unset, .unset, .unset, .unset, .unset, .unset, .unset, .unset] [(.int i15), (.int (i11 + (3 : Int32))), (.ref (n0 + ob18))])) rfl rfl (hb hby at_252)
    refine Gl.on (B := T38.setTop (mkF m 253 #[.val (.int i0), .val (.int i1), .val (.int i2), .val (.int i3), .val (.int i4), .val (.int i5), .val (.int i6), .val (.int i7), .val (.int i8), .val (.int i9), .val (.int i10), .val (.int i11), .val (.int i12), .val (.int i13), .val (.int i14), .val (.int i15), .val (.ref (n0 + ob16)), .val (.ref (n0 + ob17)), .val (.ref (n0 + ob18)), .unset, .unset, .unset, .unset, .unset, .unset, .unset, .unset, .unset, .unset, .unset, .unset, .unset, .unset, .unset, .unset, .unset] [])) (fun t k => ?_) ?_
    · show Steps p.tables e below (T0.setTop (mkF m 241 #[.val (.int i0), .val (.int i1), .val (.int i2), .val (.int i3), .val (.int i4), .val (.int i5), .val (.int i6), .val (.int i7), .val (.int i8), .val (.int i9), .val (.int i10), .val (.int i11), .val (.int i12), .val (.int i13), .val (.int i14), .val (.int i15), .val (.ref (n0 + ob16)), .val (.ref (n0 + ob17)), .val (.ref (n0 + ob18)), .unset, .unset, .unset, .unset, .unset, .unset, .unset, .unset, .unset, .unset, .unset, .unset, .unset, .unset, .unset, .unset, .unset] [(.int (4 : Int32)), (.int i10)])) _
      refine XS.icmpNo X0.here hx rfl (hb hby at_241) rfl (flt hc37).1 ?_
      show Steps p.tables e below (T0.setTop (mkF m 244 #[.val (.int i0), .val (.int i1), .val (.int i2), .val (.int i3), .val (.int i4), .val (.int i5), .val (.int i6), .val (.int i7), .val (.int i8), .val (.int i9), .val (.int i10), .val (.int i11), .val (.int i12), .val (.int i13), .val (.int i14), .val (.int i15), .val (.ref (n0 + ob16)), .val (.ref (n0 + ob17)), .val (.ref (n0 + ob18)), .unset, .unset, .unset, .unset, .unset, .unset, .unset, .unset, .unset, .unset, .unset, .unset, .unset, .unset, .unset, .unset, .unset] [])) _
      refine XS.aload X0.here hx rfl (hb hby at_244) rfl rfl ?_
      show Steps p.tables e below (T0.setTop (mkF m 246 #[.val (.int i0), .val (.int i1), .val (.int i2), .val (.int i3), .val (.int i4), .val (.int i5), .val (.int i6), .val (.int i7), .val (.int i8), .val (.int i9), .val (.int i10), .val (.int i11), .val (.int i12), .val (.int i13), .val (.int i14), .val (.int i15), .val (.ref (n0 + ob16)), .val (.ref (n0 + ob17)), .val (.ref (n0 + ob18)), .unset, .unset, .unset, .unset, .unset, .unset, .unset, .unset, .unset, .unset, .unset, .unset, .unset, .unset, .unset, .unset, .unset] [(.ref (n0 + ob18))])) _
      refine XS.iload X0.here hx rfl (hb hby at_246) rfl ?_
      show Steps p.tables e below (T0.setTop (mkF m 248 #[.val (.int i0), .val (.int i1), .val (.int i2), .val (.int i3), .val (.int i4), .val (.int i5), .val (.int i6), .val (.int i7), .val (.int i8), .val (.int i9), .val (.int i10), .val (.int i11), .val (.int i12), .val (.int i13), .val (.int i14), .val (.int i15), .val (.ref (n0 + ob16)), .val (.ref (n0 + ob17)), .val (.ref (n0 + ob18)), .unset, .unset, .unset, .unset, .unset, .unset, .unset, .unset, .unset, .unset, .unset, .unset, .unset, .unset, .unset, .unset, .unset] [(.int i11), (.ref (n0 + ob18))])) _
      refine XS.iconst X0.here hx rfl (hb hby at_248) ?_
      show Steps p.tables e below (T0.setTop (mkF m 249 #[.val (.int i0), .val (.int i1), .val (.int i2), .val (.int i3), .val (.int i4), .val (.int i5), .val (.int i6), .val (.int i7), .val (.int i8), .val (.int i9), .val (.int i10), .val (.int i11), .val (.int i12), .val (.int i13), .val (.int i14), .val (.int i15), .val (.ref (n0 + ob16)), .val (.ref (n0 + ob17)), .val (.ref (n0 + ob18)), .unset, .unset, .unset, .unset, .unset, .unset, .unset, .unset, .unset, .unset, .unset, .unset, .unset, .unset, .unset, .unset, .unset] [(.int (3 : Int32)), (.int i11), (.ref (n0 + ob18))])) _
      refine XS.iadd X0.here hx rfl (hb hby at_249) rfl ?_
      show Steps p.tables e below (T0.setTop (mkF m 250 #[.val (.int i0), .val (.int i1), .val (.int i2), .val (.int i3), .val (.int i4), .val (.int i5), .val (.int i6), .val (.int i7), .val (.int i8), .val (.int i9), .val (.int i10), .val (.int i11), .val (.int i12), .val (.int i13), .val (.int i14), .val (.int i15), .val (.ref (n0 + ob16)), .val (.ref (n0 + ob17)), .val (.ref (n0 + ob18)), .unset, .unset, .unset, .unset, .unset, .unset, .unset, .unset, .unset, .unset, .unset, .unset, .unset, .unset, .unset, .unset, .unset] [(.int (i11 + (3 : Int32))), (.ref (n0 + ob18))])) _
      refine XS.iload X0.here hx rfl (hb hby at_250) rfl ?_
      show Steps p.tables e below (T0.setTop (mkF m 252 #[.val (.int i0), .val (.int i1), .val (.int i2), .val (.int i3), .val (.int i4), .val (.int i5), .val (.int i6), .val (.int i7), .val (.int i8), .val (.int i9), .val (.int i10), .val (.int i11), .val (.int i12), .val (.int i13), .val (.int i14), .val (.int i15), .val (.ref (n0 + ob16)), .val (.ref (n0 + ob17)), .val (.ref (n0 + ob18)), .unset, .unset, .unset, .unset, .unset, .unset, .unset, .unset, .unset, .unset, .unset, .unset, .unset, .unset, .unset, .unset, .unset] [(.int i15), (.int (i11 + (3 : Int32))), (.ref (n0 + ob18))])) _
      refine st38 _ ?_
      exact k
    exact bt0_253 hw hC X38 e38 O38 N38 (by omega) (by omega) hf
def b0_140 (D : Hp) (i6 : Int32) (i7 : Int32) (i8 : Int32) (i9 : Int32) (i10 : Int32) (i11 : Int32) (i12 : Int32) (i13 : Int32) (i14 : Int32) (i15 : Int32) (ob16 : Nat) : Option (Int32 × Hp) :=
  own_let (D.length) fun a22 => own_let (D ++ [(1, [.null, .null, .null, (.int (0 : Int32))])]) fun D22 =>
  (f1 D22 a22 ob16).bind fun D23 =>
  own_let (D23.length) fun a24 => (nA D23 0 (8 : Int32) 8 (.int (0 : Int32))).bind fun D24 =>
  (wV D24 a24 0 (0 : Int32) (.int (100 : Int32))).bind fun D25 =>
  (wV D25 a24 0 (1 : Int32) (.int (101 : Int32))).bind fun D26 =>
  (wV D26 a24 0 (2 : Int32) (.int (102 : Int32))).bind fun D27 =>
  (wV D27 a24 0 (3 : Int32) (.int (103 : Int32))).bind fun D28 =>
  (wV D28 a24 0 (4 : Int32) (.int (104 : Int32))).bind fun D29 =>
  (wV D29 a24 0 (5 : Int32) (.int (105 : Int32))).bind fun D30 =>
  (wV D30 a24 0 (6 : Int32) (.int (106 : Int32))).bind fun D31 =>
  (wV D31 a24 0 (7 : Int32) (.int (107 : Int32))).bind fun D32 =>
  (wV D32 a24 0 i11 (.int i12)).bind fun D33 =>
  (wV D33 a24 0 (i11 + (1 : Int32)) (.int i13)).bind fun D34 =>
  if i10 < (3 : Int32) then (b0_238 D34 i6 i7 i8 i9 i10 i11 i12 i13 i14 i15 a22 a24) else ((wV D34 a24 0 (i11 + (2 : Int32)) (.int i14)).bind fun D36 =>
  b0_238 D36 i6 i7 i8 i9 i10 i11 i12 i13 i14 i15 a22 a24)
set_option maxRecDepth 65536 in
set_option maxHeartbeats 40000000 in
theorem bt0_140 {p : Program} {l : Launch} {e : Env} {s : State} {m : MethodId} {args : Array Value} {below : List Frame} {meth : Method} {c : Code} {Z : State} {a0 : Array Value} {n0 : Nat} {D' : Hp} {r : Int32} {T0 : State} {locs : List Loc} {cells slots : Nat} {h0 : Heap} {D : Hp} {i0 : Int32} {i1 : Int32} {i2 : Int32} {i3 : Int32} {i4 : Int32} {i5 : Int32} {i6 : Int32} {i7 : Int32} {i8 : Int32} {i9 : Int32} {i10 : Int32} {i11 : Int32} {i12 : Int32} {i13 : Int32} {i14 : Int32} {i15 : Int32} {ob16 : Nat} (hw : ∀ d ∈ tables_1, d.before a0 Z = true) (hC : Cx p s m meth c Z code maxLocals ret "com/example/pathweave/pathweave/core/PairIndexPairsOfPinLaw" "law") (X0 : Stand p l e room_1 s m args below meth c T0 locs cells slots) (e0 : T0.heap = h0) (O0 : Ow Kt1 Z h0 n0 D) (N0 : Fr n0 locs) (hcc : cells ≤ 1) (hss : slots ≤ 8) (hf : b0_140 D i6 i7 i8 i9 i10 i11 i12 i13 i14 i15 ob16 = some (r, D')) : Gl p e below s 24 192 (Qw Kt1 Z n0 (some (.int r)) D') (T0.setTop (mkF m 140 #[.val (.int i0), .val (.int i1), .val (.int i2), .val (.int i3), .val (.int i4), .val (.int i5), .val (.int i6), .val (.int i7), .val (.int i8), .val (.int i9), .val (.int i10), .val (.int i11), .val (.int i12), .val (.int i13), .val (.int i14), .val (.int i15), .val (.ref (n0 + ob16)), .unset, .unset, .unset, .unset, .unset, .unset, .unset, .unset, .unset, .unset, .unset, .unset, .unset, .unset, .unset, .unset, .unset, .unset, .unset] [])) := by
  obtain ⟨hx, hZ, hby, hml, hown, hnm, hret, hlk⟩ := id hC
  have hml : c.maxLocals = 36 := hml
  rw [b0_140] at hf
  obtain ⟨a22, ha22, hf⟩ := own_letE hf
  obtain ⟨D22, hD22, hf⟩ := own_letE hf
  obtain ⟨T22, h22, X22, e22, O22, st22⟩ := newW X0 hx hZ hown (hw _ (List.mem_of_getElem? (i := 2) rfl)) (hw _ (List.mem_of_getElem? (i := 3) rfl)) (hw _ (List.mem_of_getElem? (i := 4) rfl)) (lay1 hw) e0 O0 (t := 1) rfl (ds := [.null, .null, .null, (.int (0 : Int32))]) (by decide) (g := (mkF m 140 #[.val (.int i0), .val (.int i1), .val (.int i2), .val (.int i3), .val (.int i4), .val (.int i5), .val (.int i6), .val (.int i7), .val (.int i8), .val (.int i9), .val (.int i10), .val (.int i11), .val (.int i12), .val (.int i13), .val (.int i14), .val (.int i15), .val (.ref (n0 + ob16)), .unset, .unset, .unset, .unset, .unset, .unset, .unset, .unset, .unset, .unset, .unset, .unset, .unset, .unset, .unset, .unset, .unset, .unset, .unset] [])) rfl (hb hby at_140) (by show _ + 1 ≤ 24; omega) (by show _ + 4 ≤ 192; omega)
  rw [ha22] at st22
  rw [hD22] at O22
  obtain ⟨D23, hq23, hf⟩ := own_bind hf
  obtain ⟨T23, h23, L23, X23, e23, O23, N23, st23⟩ := callIW X22 hx hZ (y := (⟨"com/example/pathweave/pathweave/core/PairIndex", "<init>", "([I)V"⟩ : MethodName)) rfl hown (hw _ (List.mem_of_getElem? (i := 5) rfl)) (hw _ (List.mem_of_getElem? (i := 6) rfl)) (hw _ (List.mem_of_getElem? (i := 4) rfl)) (hw _ (List.mem_of_getElem? (i := 7) rfl)) (by decide) e22 O22 N0 (as' := [(.ref (n0 + ob16))]) (ct1 hw hq23) (W := 1) (kc := 3) (ks := 24) rfl rfl (by decide) (by decide) (g := (mkF m 146 #[.val (.int i0), .val (.int i1), .val (.int i2), .val (.int i3), .val (.int i4), .val (.int i5), .val (.int i6), .val (.int i7), .val (.int i8), .val (.int i9), .val (.int i10), .val (.int i11), .val (.int i12), .val (.int i13), .val (.int i14), .val (.int i15), .val (.ref (n0 + ob16)), .unset, .unset, .unset, .unset, .unset, .unset, .unset, .unset, .unset, .unset, .unset, .unset, .unset, .unset, .unset, .unset, .unset, .unset, .unset] [(.ref (n0 + ob16)), (.ref (n0 + a22)), (.ref (n0 + a22))])) rfl (by rw [hml]; rfl) (rest := [(.ref (n0 + a22))]) (lenOf pd_4 rfl) rfl (by show 2 * 0 + _ ≤ _; exact Nat.le_of_eq rfl) (hb hby at_146) (by show _ + 3 ≤ 24; omega) (by show _ + 24 ≤ 192; omega)
  obtain ⟨a24, ha24, hf⟩ := own_letE hf
  obtain ⟨D24, hD24, hf⟩ := own_bind hf
  obtain ⟨T24, h24, X24, e24, O24, st24⟩ := newAW X23 hx hZ (aty := .int) (hw _ (List.mem_of_getElem? (i := 1) rfl)) e23 O23 rfl rfl hD24 (g := (mkF m 153 #[.val (.int i0), .val (.int i1), .val (.int i2), .val (.int i3), .val (.int i4), .val (.int i5), .val (.int i6), .val (.int i7), .val (.int i8), .val (.int i9), .val (.int i10), .val (.int i11), .val (.int i12), .val (.int i13), .val (.int i14), .val (.int i15), .val (.ref (n0 + ob16)), .val (.ref (n0 + a22)), .unset, .unset, .unset, .unset, .unset, .unset, .unset, .unset, .unset, .unset, .unset, .unset, .unset, .unset, .unset, .unset, .unset, .unset] [(.int (8 : Int32))])) rfl (hb hby at_153) rfl (by decide) (by show _ + 1 ≤ 24; omega) (by show _ + 8 ≤ 192; omega)
  rw [ha24] at st24
  obtain ⟨D25, hq25, hf⟩ := own_bind hf
  obtain ⟨T25, h25, L25, X25, e25, O25, N25, st25⟩ := stIW X24 hx hZ e24 O24 N23 hq25 rfl (g := (mkF m 162 #[.val (.int i0), .val (.int i1), .val (.int i2), .val (.int i3), .val (.int i4), .val (.int i5), .val (.int i6), .val (.int i7), .val (.int i8), .val (.int i9), .val (.int i10), .val (.int i11), .val (.int i12), .val (.int i13), .val (.int i14), .val (.int i15), .val (.ref (n0 + ob16)), .val (.ref (n0 + a22)), .val (.ref (n0 + a24)), .unset, .unset, .unset, .unset, .unset, .unset, .unset, .unset, .unset, .unset, .unset, .unset, .unset, .unset, .unset, .unset, .unset] [(.int (100 : Int32)), (.int (0 : Int32)), (.ref (n0 + a24))])) rfl rfl (hb hby at_162)
  obtain ⟨D26, hq26, hf⟩ := own_bind hf
  obtain ⟨T26, h26, L26, X26, e26, O26, N26, st26⟩ := stIW X25 hx hZ e25 O25 N25 hq26 rfl (g := (mkF m 168 #[.val (.int i0), .val (.int i1), .val (.int i2), .val (.int i3), .val (.int i4), .val (.int i5), .val (.int i6), .val (.int i7), .val (.int i8), .val (.int i9), .val (.int i10), .val (.int i11), .val (.int i12), .val (.int i13), .val (.int i14), .val (.int i15), .val (.ref (n0 + ob16)), .val (.ref (n0 + a22)), .val (.ref (n0 + a24)), .unset, .unset, .unset, .unset, .unset, .unset, .unset, .unset, .unset, .unset, .unset, .unset, .unset, .unset, .unset, .unset, .unset] [(.int (101 : Int32)), (.int (1 : Int32)), (.ref (n0 + a24))])) rfl rfl (hb hby at_168)
  obtain ⟨D27, hq27, hf⟩ := own_bind hf
  obtain ⟨T27, h27, L27, X27, e27, O27, N27, st27⟩ := stIW X26 hx hZ e26 O26 N26 hq27 rfl (g := (mkF m 174 #[.val (.int i0), .val (.int i1), .val (.int i2), .val (.int i3), .val (.int i4), .val (.int i5), .val (.int i6), .val (.int i7), .val (.int i8), .val (.int i9), .val (.int i10), .val (.int i11), .val (.int i12), .val (.int i13), .val (.int i14), .val (.int i15), .val (.ref (n0 + ob16)), .val (.ref (n0 + a22)), .val (.ref (n0 + a24)), .unset, .unset, .unset, .unset, .unset, .unset, .unset, .unset, .unset, .unset, .unset, .unset, .unset, .unset, .unset, .unset, .unset] [(.int (102 : Int32)), (.int (2 : Int32)), (.ref (n0 + a24))])) rfl rfl (hb hby at_174)
  obtain ⟨D28, hq28, hf⟩ := own_bind hf
  obtain ⟨T28, h28, L28, X28, e28, O28, N28, st28⟩ := stIW X27 hx hZ e27 O27 N27 hq28 rfl (g := (mkF m 180 #[.val (.int i0), .val (.int i1), .val (.int i2), .val (.int i3), .val (.int i4), .val (.int i5), .val (.int i6), .val (.int i7), .val (.int i8), .val (.int i9), .val (.int i10), .val (.int i11), .val (.int i12), .val (.int i13), .val (.int i14), .val (.int i15), .val (.ref (n0 + ob16)), .val (.ref (n0 + a22)), .val (.ref (n0 + a24)), .unset, .unset, .unset, .unset, .unset, .unset, .unset, .unset, .unset, .unset, .unset, .unset, .unset, .unset, .unset, .unset, .unset] [(.int (103 : Int32)), (.int (3 : Int32)), (.ref (n0 + a24))])) rfl rfl (hb hby at_180)
  obtain ⟨D29, hq29, hf⟩ := own_bind hf
  obtain ⟨T29, h29, L29, X29, e29, O29, N29, st29⟩ := stIW X28 hx hZ e28 O28 N28 hq29 rfl (g := (mkF m 186 #[.val (.int i0), .val (.int i1), .val (.int i2), .val (.int i3), .val (.int i4), .val (.int i5), .val (.int i6), .val (.int i7), .val (.int i8), .val (.int i9), .val (.int i10), .val (.int i11), .val (.int i12), .val (.int i13), .val (.int i14), .val (.int i15), .val (.ref (n0 + ob16)), .val (.ref (n0 + a22)), .val (.ref (n0 + a24)), .unset, .unset, .unset, .unset, .unset, .unset, .unset, .unset, .unset, .unset, .unset, .unset, .unset, .unset, .unset, .unset, .unset] [(.int (104 : Int32)), (.int (4 : Int32)), (.ref (n0 + a24))])) rfl rfl (hb hby at_186)
  obtain ⟨D30, hq30, hf⟩ := own_bind hf
  obtain ⟨T30, h30, L30, X30, e30, O30, N30, st30⟩ := stIW X29 hx hZ e29 O29 N29 hq30 rfl (g := (mkF m 192 #[.val (.int i0), .val (.int i1), .val (.int i2), .val (.int i3), .val (.int i4), .val (.int i5), .val (.int i6), .val (.int i7), .val (.int i8), .val (.int i9), .val (.int i10), .val (.int i11), .val (.int i12), .val (.int i13), .val (.int i14), .val (.int i15), .val (.ref (n0 + ob16)), .val (.ref (n0 + a22)), .val (.ref (n0 + a24)), .unset, .unset, .unset, .unset, .unset, .unset, .unset, .unset, .unset, .unset, .unset, .unset, .unset, .unset, .unset, .unset, .unset] [(.int (105 : Int32)), (.int (5 : Int32)), (.ref (n0 + a24))])) rfl rfl (hb hby at_192)
  obtain ⟨D31, hq31, hf⟩ := own_bind hf
  obtain ⟨T31, h31, L31, X31, e31, O31, N31, st31⟩ := stIW X30 hx hZ e30 O30 N30 hq31 rfl (g := (mkF m 199 #[.val (.int i0), .val (.int i1), .val (.int i2), .val (.int i3), .val (.int i4), .val (.int i5), .val (.int i6), .val (.int i7), .val (.int i8), .val (.int i9), .val (.int i10), .val (.int i11), .val (.int i12), .val (.int i13), .val (.int i14), .val (.int i15), .val (.ref (n0 + ob16)), .val (.ref (n0 + a22)), .val (.ref (n0 + a24)), .unset, .unset, .unset, .unset, .unset, .unset, .unset, .unset, .unset, .unset, .unset, .unset, .unset, .unset, .unset, .unset, .unset] [(.int (106 : Int32)), (.int (6 : Int32)), (.ref (n0 + a24))])) rfl rfl (hb hby at_199)
  obtain ⟨D32, hq32, hf⟩ := own_bind hf
  obtain ⟨T32, h32, L32, X32, e32, O32, N32, st32⟩ := stIW X31 hx hZ e31 O31 N31 hq32 rfl (g := (mkF m 206 #[.val (.int i0), .val (.int i1), .val (.int i2), .val (.int i3), .val (.int i4), .val (.int i5), .val (.int i6), .val (.int i7), .val (.int i8), .val (.int i9), .val (.int i10), .val (.int i11), .val (.int i12), .val (.int i13), .val (.int i14), .val (.int i15), .val (.ref (n0 + ob16)), .val (.ref (n0 + a22)), .val (.ref (n0 + a24)), .unset, .unset, .unset, .unset, .unset, .unset, .unset, .unset, .unset, .unset, .unset, .unset, .unset, .unset, .unset, .unset, .unset] [(.int (107 : Int32)), (.int (7 : Int32)), (.ref (n0 + a24))])) rfl rfl (hb hby at_206)
  obtain ⟨D33, hq33, hf⟩ := own_bind hf
  obtain ⟨T33, h33, L33, X33, e33, O33, N33, st33⟩ := stIW X32 hx hZ e32 O32 N32 hq33 rfl (g := (mkF m 213 #[.val (.int i0), .val (.int i1), .val (.int i2), .val (.int i3), .val (.int i4), .val (.int i5), .val (.int i6), .val (.int i7), .val (.int i8), .val (.int i9), .val (.int i10), .val (.int i11), .val (.int i12), .val (.int i13), .val (.int i14), .val (.int i15), .val (.ref (n0 + ob16)), .val (.ref (n0 + a22)), .val (.ref (n0 + a24)), .unset, .unset, .unset, .unset, .unset, .unset, .unset, .unset, .unset, .unset, .unset, .unset, .unset, .unset, .unset, .unset, .unset] [(.int i12), (.int i11), (.ref (n0 + a24))])) rfl rfl (hb hby at_213)
  obtain ⟨D34, hq34, hf⟩ := own_bind hf
  obtain ⟨T34, h34, L34, X34, e34, O34, N34, st34⟩ := stIW X33 hx hZ e33 O33 N33 hq34 rfl (g := (mkF m 222 #[.val (.int i0), .val (.int i1), .val (.int i2), .val (.int i3), .val (.int i4), .val (.int i5), .val (.int i6), .val (.int i7), .val (.int i8), .val (.int i9), .val (.int i10), .val (.int i11), .val (.int i12), .val (.int i13), .val (.int i14), .val (.int i15), .val (.ref (n0 + ob16)), .val (.ref (n0 + a22)), .val (.ref (n0 + a24)), .unset, .unset, .unset, .unset, .unset, .unset, .unset, .unset, .unset, .unset, .unset, .unset, .unset, .unset, .unset, .unset, .unset] [(.int i13), (.int (i11 + (1 : Int32))), (.ref (n0 + a24))])) rfl rfl (hb hby at_222)
  refine Gl.on (B := T34.setTop (mkF m 226 #[.val (.int i0), .val (.int i1), .val (.int i2), .val (.int i3), .val (.int i4), .val (.int i5), .val (.int i6), .val (.int i7), .val (.int i8), .val (.int i9), .val (.int i10), .val (.int i11), .val (.int i12), .val (.int i13), .val (.int i14), .val (.int i15), .val (.ref (n0 + ob16)), .val (.ref (n0 + a22)), .val (.ref (n0 + a24)), .unset, .unset, .unset, .unset, .unset, .unset, .unset, .unset, .unset, .unset, .unset, .unset, .unset, .unset, .unset, .unset, .unset] [(.int (3 : Int32)), (.int i10)])) (fun t k => ?_) ?_
  · show Steps p.tables e below (T0.setTop (mkF m 140 #[.val (.int i0), .val (.int i1), .val (.int i2), .val (.int i3), .val (.int i4), .val (.int i5), .val (.int i6), .val (.int i7), .val (.int i8), .val (.int i9), .val (.int i10), .val (.int i11), .val (.int i12), .val (.int i13), .val (.int i14), .val (.int i15), .val (.ref (n0 + ob16)), .unset, .unset, .unset, .unset, .unset, .unset, .unset, .unset, .unset, .unset, .unset, .unset, .unset, .unset, .unset, .unset, .unset, .unset, .unset] [])) _
    refine st22 _ ?_
    show Steps p.tables e below (T22.setTop (mkF m 143 #[.val (.int i0), .val (.int i1), .val (.int i2), .val (.int i3), .val (.int i4), .val (.int i5), .val (.int i6), .val (.int i7), .val (.int i8), .val (.int i9), .val (.int i10), .val (.int i11), .val (.int i12), .val (.int i13), .val (.int i14), .val (.int i15), .val (.ref (n0 + ob16)), .unset, .unset, .unset, .unset, .unset, .unset, .unset, .unset, .unset, .unset, .unset, .unset, .unset, .unset, .unset, .unset, .unset, .unset, .unset] [(.ref (n0 + a22))])) _
    refine XS.dup X22.here hx rfl (hb hby at_143) rfl rfl ?_
    show Steps p.tables e below (T22.setTop (mkF m 144 #[.val (.int i0), .val (.int i1), .val (.int i2), .val (.int i3), .val (.int i4), .val (.int i5), .val (.int i6), .val (.int i7), .val (.int i8), .val (.int i9), .val (.int i10), .val (.int i11), .val (.int i12), .val (.int i13), .val (.int i14), .val (.int i15), .val (.ref (n0 + ob16)), .unset, .unset, .unset, .unset, .unset, .unset, .unset, .unset, .unset, .unset, .unset, .unset, .unset, .unset, .unset, .unset, .unset, .unset, .unset] [(.ref (n0 + a22)), (.ref (n0 + a22))])) _
    refine XS.aload X22.here hx rfl (hb hby at_144) rfl rfl ?_
    show Steps p.tables e below (T22.setTop (mkF m 146 #[.val (.int i0), .val (.int i1), .val (.int i2), .val (.int i3), .val (.int i4), .val (.int i5), .val (.int i6), .val (.int i7), .val (.int i8), .val (.int i9), .val (.int i10), .val (.int i11), .val (.int i12), .val (.int i13), .val (.int i14), .val (.int i15), .val (.ref (n0 + ob16)), .unset, .unset, .unset, .unset, .unset, .unset, .unset, .unset, .unset, .unset, .unset, .unset, .unset, .unset, .unset, .unset, .unset, .unset, .unset] [(.ref (n0 + ob16)), (.ref (n0 + a22)), (.ref (n0 + a22))])) _
    refine st23 _ ?_
    show Steps p.tables e below (T23.setTop (mkF m 149 #[.val (.int i0), .val (.int i1), .val (.int i2), .val (.int i3), .val (.int i4), .val (.int i5), .val (.int i6), .val (.int i7), .val (.int i8), .val (.int i9), .val (.int i10), .val (.int i11), .val (.int i12), .val (.int i13), .val (.int i14), .val (.int i15), .val (.ref (n0 + ob16)), .unset, .unset, .unset, .unset, .unset, .unset, .unset, .unset, .unset, .unset, .unset, .unset, .unset, .unset, .unset, .unset, .unset, .unset, .unset] [(.ref (n0 + a22))])) _
    refine XS.astore X23.here hx rfl (hb hby at_149) rfl rfl (l' := #[.val (.int i0), .val (.int i1), .val (.int i2), .val (.int i3), .val (.int i4), .val (.int i5), .val (.int i6), .val (.int i7), .val (.int i8), .val (.int i9), .val (.int i10), .val (.int i11), .val (.int i12), .val (.int i13), .val (.int i14), .val (.int i15), .val (.ref (n0 + ob16)), .val (.ref (n0 + a22)), .unset, .unset, .unset, .unset, .unset, .unset, .unset, .unset, .unset, .unset, .unset, .unset, .unset, .unset, .unset, .unset, .unset, .unset]) rfl ?_
    show Steps p.tables e below (T23.setTop (mkF m 151 #[.val (.int i0), .val (.int i1), .val (.int i2), .val (.int i3), .val (.int i4), .val (.int i5), .val (.int i6), .val (.int i7), .val (.int i8), .val (.int i9), .val (.int i10), .val (.int i11), .val (.int i12), .val (.int i13), .val (.int i14), .val (.int i15), .val (.ref (n0 + ob16)), .val (.ref (n0 + a22)), .unset, .unset, .unset, .unset, .unset, .unset, .unset, .unset, .unset, .unset, .unset, .unset, .unset, .unset, .unset, .unset, .unset, .unset] [])) _
    refine XS.bipush X23.here hx rfl (hb hby at_151) ?_
    show Steps p.tables e below (T23.setTop (mkF m 153 #[.val (.int i0), .val (.int i1), .val (.int i2), .val (.int i3), .val (.int i4), .val (.int i5), .val (.int i6), .val (.int i7), .val (.int i8), .val (.int i9), .val (.int i10), .val (.int i11), .val (.int i12), .val (.int i13), .val (.int i14), .val (.int i15), .val (.ref (n0 + ob16)), .val (.ref (n0 + a22)), .unset, .unset, .unset, .unset, .unset, .unset, .unset, .unset, .unset, .unset, .unset, .unset, .unset, .unset, .unset, .unset, .unset, .unset] [(.int (8 : Int32))])) _
    refine st24 _ ?_
    show Steps p.tables e below (T24.setTop (mkF m 155 #[.val (.int i0), .val (.int i1), .val (.int i2), .val (.int i3), .val (.int i4), .val (.int i5), .val (.int i6), .val (.int i7), .val (.int i8), .val (.int i9), .val (.int i10), .val (.int i11), .val (.int i12), .val (.int i13), .val (.int i14), .val (.int i15), .val (.ref (n0 + ob16)), .val (.ref (n0 + a22)), .unset, .unset, .unset, .unset, .unset, .unset, .unset, .unset, .unset, .unset, .unset, .unset, .unset, .unset, .unset, .unset, .unset, .unset] [(.ref (n0 + a24))])) _
    refine XS.astore X24.here hx rfl (hb hby at_155) rfl rfl (l' := #[.val (.int i0), .val (.int i1), .val (.int i2), .val (.int i3), .val (.int i4), .val (.int i5), .val (.int i6), .val (.int i7), .val (.int i8), .val (.int i9), .val (.int i10), .val (.int i11), .val (.int i12), .val (.int i13), .val (.int i14), .val (.int i15), .val (.ref (n0 + ob16)), .val (.ref (n0 + a22)), .val (.ref (n0 + a24)), .unset, .unset, .unset, .unset, .unset, .unset, .unset, .unset, .unset, .unset, .unset, .unset, .unset, .unset, .unset, .unset, .unset]) rfl ?_
    show Steps p.tables e below (T24.setTop (mkF m 157 #[.val (.int i0), .val (.int i1), .val (.int i2), .val (.int i3), .val (.int i4), .val (.int i5), .val (.int i6), .val (.int i7), .val (.int i8), .val (.int i9), .val (.int i10), .val (.int i11), .val (.int i12), .val (.int i13), .val (.int i14), .val (.int i15), .val (.ref (n0 + ob16)), .val (.ref (n0 + a22)), .val (.ref (n0 + a24)), .unset, .unset, .unset, .unset, .unset, .unset, .unset, .unset, .unset, .unset, .unset, .unset, .unset, .unset, .unset, .unset, .unset] [])) _
    refine XS.aload X24.here hx rfl (hb hby at_157) rfl rfl ?_
    show Steps p.tables e below (T24.setTop (mkF m 159 #[.val (.int i0), .val (.int i1), .val (.int i2), .val (.int i3), .val (.int i4), .val (.int i5), .val (.int i6), .val (.int i7), .val (.int i8), .val (.int i9), .val (.int i10), .val (.int i11), .val (.int i12), .val (.int i13), .val (.int i14), .val (.int i15), .val (.ref (n0 + ob16)), .val (.ref (n0 + a22)), .val (.ref (n0 + a24)), .unset, .unset, .unset, .unset, .unset, .unset, .unset, .unset, .unset, .unset, .unset, .unset, .unset, .unset, .unset, .unset, .unset] [(.ref (n0 + a24))])) _
    refine XS.iconst X24.here hx rfl (hb hby at_159) ?_
    show Steps p.tables e below (T24.setTop (mkF m 160 #[.val (.int i0), .val (.int i1), .val (.int i2), .val (.int i3), .val (.int i4), .val (.int i5), .val (.int i6), .val (.int i7), .val (.int i8), .val (.int i9), .val (.int i10), .val (.int i11), .val (.int i12), .val (.int i13), .val (.int i14), .val (.int i15), .val (.ref (n0 + ob16)), .val (.ref (n0 + a22)), .val (.ref (n0 + a24)), .unset, .unset, .unset, .unset, .unset, .unset, .unset, .unset, .unset, .unset, .unset, .unset, .unset, .unset, .unset, .unset, .unset] [(.int (0 : Int32)), (.ref (n0 + a24))])) _
    refine XS.bipush X24.here hx rfl (hb hby at_160) ?_
    show Steps p.tables e below (T24.setTop (mkF m 162 #[.val (.int i0), .val (.int i1), .val (.int i2), .val (.int i3), .val (.int i4), .val (.int i5), .val (.int i6), .val (.int i7), .val (.int i8), .val (.int i9), .val (.int i10), .val (.int i11), .val (.int i12), .val (.int i13), .val (.int i14), .val (.int i15), .val (.ref (n0 + ob16)), .val (.ref (n0 + a22)), .val (.ref (n0 + a24)), .unset, .unset, .unset, .unset, .unset, .unset, .unset, .unset, .unset, .unset, .unset, .unset, .unset, .unset, .unset, .unset, .unset] [(.int (100 : Int32)), (.int (0 : Int32)), (.ref (n0 + a24))])) _
    refine st25 _ ?_
    show Steps p.tables e below (T25.setTop (mkF m 163 #[.val (.int i0), .val (.int i1), .val (.int i2), .val (.int i3), .val (.int i4), .val (.int i5), .val (.int i6), .val (.int i7), .val (.int i8), .val (.int i9), .val (.int i10), .val (.int i11), .val (.int i12), .val (.int i13), .val (.int i14), .val (.int i15), .val (.ref (n0 + ob16)), .val (.ref (n0 + a22)), .val (.ref (n0 + a24)), .unset, .unset, .unset, .unset, .unset, .unset, .unset, .unset, .unset, .unset, .unset, .unset, .unset, .unset, .unset, .unset, .unset] [])) _
    refine XS.aload X25.here hx rfl (hb hby at_163) rfl rfl ?_
    show Steps p.tables e below (T25.setTop (mkF m 165 #[.val (.int i0), .val (.int i1), .val (.int i2), .val (.int i3), .val (.int i4), .val (.int i5), .val (.int i6), .val (.int i7), .val (.int i8), .val (.int i9), .val (.int i10), .val (.int i11), .val (.int i12), .val (.int i13), .val (.int i14), .val (.int i15), .val (.ref (n0 + ob16)), .val (.ref (n0 + a22)), .val (.ref (n0 + a24)), .unset, .unset, .unset, .unset, .unset, .unset, .unset, .unset, .unset, .unset, .unset, .unset, .unset, .unset, .unset, .unset, .unset] [(.ref (n0 + a24))])) _
    refine XS.iconst X25.here hx rfl (hb hby at_165) ?_
    show Steps p.tables e below (T25.setTop (mkF m 166 #[.val (.int i0), .val (.int i1), .val (.int i2), .val (.int i3), .val (.int i4), .val (.int i5), .val (.int i6), .val (.int i7), .val (.int i8), .val (.int i9), .val (.int i10), .val (.int i11), .val (.int i12), .val (.int i13), .val (.int i14), .val (.int i15), .val (.ref (n0 + ob16)), .val (.ref (n0 + a22)), .val (.ref (n0 + a24)), .unset, .unset, .unset, .unset, .unset, .unset, .unset, .unset, .unset, .unset, .unset, .unset, .unset, .unset, .unset, .unset, .unset] [(.int (1 : Int32)), (.ref (n0 + a24))])) _
    refine XS.bipush X25.here hx rfl (hb hby at_166) ?_
    show Steps p.tables e below (T25.setTop (mkF m 168 #[.val (.int i0), .val (.int i1), .val (.int i2), .val (.int i3), .val (.int i4), .val (.int i5), .val (.int i6), .val (.int i7), .val (.int i8), .val (.int i9), .val (.int i10), .val (.int i11), .val (.int i12), .val (.int i13), .val (.int i14), .val (.int i15), .val (.ref (n0 + ob16)), .val (.ref (n0 + a22)), .val (.ref (n0 + a24)), .unset, .unset, .unset, .unset, .unset, .unset, .unset, .unset, .unset, .unset, .unset, .unset, .unset, .unset, .unset, .unset, .unset] [(.int (101 : Int32)), (.int (1 : Int32)), (.ref (n0 + a24))])) _
    refine st26 _ ?_
    show Steps p.tables e below (T26.setTop (mkF m 169 #[.val (.int i0), .val (.int i1), .val (.int i2), .val (.int i3), .val (.int i4), .val (.int i5), .val (.int i6), .val (.int i7), .val (.int i8), .val (.int i9), .val (.int i10), .val (.int i11), .val (.int i12), .val (.int i13), .val (.int i14), .val (.int i15), .val (.ref (n0 + ob16)), .val (.ref (n0 + a22)), .val (.ref (n0 + a24)), .unset, .unset, .unset, .unset, .unset, .unset, .unset, .unset, .unset, .unset, .unset, .unset, .unset, .unset, .unset, .unset, .unset] [])) _
    refine XS.aload X26.here hx rfl (hb hby at_169) rfl rfl ?_
    show Steps p.tables e below (T26.setTop (mkF m 171 #[.val (.int i0), .val (.int i1), .val (.int i2), .val (.int i3), .val (.int i4), .val (.int i5), .val (.int i6), .val (.int i7), .val (.int i8), .val (.int i9), .val (.int i10), .val (.int i11), .val (.int i12), .val (.int i13), .val (.int i14), .val (.int i15), .val (.ref (n0 + ob16)), .val (.ref (n0 + a22)), .val (.ref (n0 + a24)), .unset, .unset, .unset, .unset, .unset, .unset, .unset, .unset, .unset, .unset, .unset, .unset, .unset, .unset, .unset, .unset, .unset] [(.ref (n0 + a24))])) _
    refine XS.iconst X26.here hx rfl (hb hby at_171) ?_
    show Steps p.tables e below (T26.setTop (mkF m 172 #[.val (.int i0), .val (.int i1), .val (.int i2), .val (.int i3), .val (.int i4), .val (.int i5), .val (.int i6), .val (.int i7), .val (.int i8), .val (.int i9), .val (.int i10), .val (.int i11), .val (.int i12), .val (.int i13), .val (.int i14), .val (.int i15), .val (.ref (n0 + ob16)), .val (.ref (n0 + a22)), .val (.ref (n0 + a24)), .unset, .unset, .unset, .unset, .unset, .unset, .unset, .unset, .unset, .unset, .unset, .unset, .unset, .unset, .unset, .unset, .unset] [(.int (2 : Int32)), (.ref (n0 + a24))])) _
    refine XS.bipush X26.here hx rfl (hb hby at_172) ?_
    show Steps p.tables e below (T26.setTop (mkF m 174 #[.val (.int i0), .val (.int i1), .val (.int i2), .val (.int i3), .val (.int i4), .val (.int i5), .val (.int i6), .val (.int i7), .val (.int i8), .val (.int i9), .val (.int i10), .val (.int i11), .val (.int i12), .val (.int i13), .val (.int i14), .val (.int i15), .val (.ref (n0 + ob16)), .val (.ref (n0 + a22)), .val (.ref (n0 + a24)), .unset, .unset, .unset, .unset, .unset, .unset, .unset, .unset, .unset, .unset, .unset, .unset, .unset, .unset, .unset, .unset, .unset] [(.int (102 : Int32)), (.int (2 : Int32)), (.ref (n0 + a24))])) _
    refine st27 _ ?_
    show Steps p.tables e below (T27.setTop (mkF m 175 #[.val (.int i0), .val (.int i1), .val (.int i2), .val (.int i3), .val (.int i4), .val (.int i5), .val (.int i6), .val (.int i7), .val (.int i8), .val (.int i9), .val (.int i10), .val (.int i11), .val (.int i12), .val (.int i13), .val (.int i14), .val (.int i15), .val (.ref (n0 + ob16)), .val (.ref (n0 + a22)), .val (.ref (n0 + a24)), .unset, .unset, .unset, .unset, .unset, .unset, .unset, .unset, .unset, .unset, .unset, .unset, .unset, .unset, .unset, .unset, .unset] [])) _
    refine XS.aload X27.here hx rfl (hb hby at_175) rfl rfl ?_
    show Steps p.tables e below (T27.setTop (mkF m 177 #[.val (.int i0), .val (.int i1), .val (.int i2), .val (.int i3), .val (.int i4), .val (.int i5), .val (.int i6), .val (.int i7), .val (.int i8), .val (.int i9), .val (.int i10), .val (.int i11), .val (.int i12), .val (.int i13), .val (.int i14), .val (.int i15), .val (.ref (n0 + ob16)), .val (.ref (n0 + a22)), .val (.ref (n0 + a24)), .unset, .unset, .unset, .unset, .unset, .unset, .unset, .unset, .unset, .unset, .unset, .unset, .unset, .unset, .unset, .unset, .unset] [(.ref (n0 + a24))])) _
    refine XS.iconst X27.here hx rfl (hb hby at_177) ?_
    show Steps p.tables e below (T27.setTop (mkF m 178 #[.val (.int i0), .val (.int i1), .val (.int i2), .val (.int i3), .val (.int i4), .val (.int i5), .val (.int i6), .val (.int i7), .val (.int i8), .val (.int i9), .val (.int i10), .val (.int i11), .val (.int i12), .val (.int i13), .val (.int i14), .val (.int i15), .val (.ref (n0 + ob16)), .val (.ref (n0 + a22)), .val (.ref (n0 + a24)), .unset, .unset, .unset, .unset, .unset, .unset, .unset, .unset, .unset, .unset, .unset, .unset, .unset, .unset, .unset, .unset, .unset] [(.int (3 : Int32)), (.ref (n0 + a24))])) _
    refine XS.bipush X27.here hx rfl (hb hby at_178) ?_
    show Steps p.tables e below (T27.setTop (mkF m 180 #[.val (.int i0), .val (.int i1), .val (.int i2), .val (.int i3), .val (.int i4), .val (.int i5), .val (.int i6), .val (.int i7), .val (.int i8), .val (.int i9), .val (.int i10), .val (.int i11), .val (.int i12), .val (.int i13), .val (.int i14), .val (.int i15), .val (.ref (n0 + ob16)), .val (.ref (n0 + a22)), .val (.ref (n0 + a24)), .unset, .unset, .unset, .unset, .unset, .unset, .unset, .unset, .unset, .unset, .unset, .unset, .unset, .unset, .unset, .unset, .unset] [(.int (103 : Int32)), (.int (3 : Int32)), (.ref (n0 + a24))])) _
    refine st28 _ ?_
    show Steps p.tables e below (T28.setTop (mkF m 181 #[.val (.int i0), .val (.int i1), .val (.int i2), .val (.int i3), .val (.int i4), .val (.int i5), .val (.int i6), .val (.int i7), .val (.int i8), .val (.int i9), .val (.int i10), .val (.int i11), .val (.int i12), .val (.int i13), .val (.int i14), .val (.int i15), .val (.ref (n0 + ob16)), .val (.ref (n0 + a22)), .val (.ref (n0 + a24)), .unset, .unset, .unset, .unset, .unset, .unset, .unset, .unset, .unset, .unset, .unset, .unset, .unset, .unset, .unset, .unset, .unset] [])) _
    refine XS.aload X28.here hx rfl (hb hby at_181) rfl rfl ?_
    show Steps p.tables e below (T28.setTop (mkF m 183 #[.val (.int i0), .val (.int i1), .val (.int i2), .val (.int i3), .val (.int i4), .val (.int i5), .val (.int i6), .val (.int i7), .val (.int i8), .val (.int i9), .val (.int i10), .val (.int i11), .val (.int i12), .val (.int i13), .val (.int i14), .val (.int i15), .val (.ref (n0 + ob16)), .val (.ref (n0 + a22)), .val (.ref (n0 + a24)), .unset, .unset, .unset, .unset, .unset, .unset, .unset, .unset, .unset, .unset, .unset, .unset, .unset, .unset, .unset, .unset, .unset] [(.ref (n0 + a24))])) _
    refine XS.iconst X28.here hx rfl (hb hby at_183) ?_
    show Steps p.tables e below (T28.setTop (mkF m 184 #[.val (.int i0), .val (.int i1), .val (.int i2), .val (.int i3), .val (.int i4), .val (.int i5), .val (.int i6), .val (.int i7), .val (.int i8), .val (.int i9), .val (.int i10), .val (.int i11), .val (.int i12), .val (.int i13), .val (.int i14), .val (.int i15), .val (.ref (n0 + ob16)), .val (.ref (n0 + a22)), .val (.ref (n0 + a24)), .unset, .unset, .unset, .unset, .unset, .unset, .unset, .unset, .unset, .unset, .unset, .unset, .unset, .unset, .unset, .unset, .unset] [(.int (4 : Int32)), (.ref (n0 + a24))])) _
    refine XS.bipush X28.here hx rfl (hb hby at_184) ?_
    show Steps p.tables e below (T28.setTop (mkF m 186 #[.val (.int i0), .val (.int i1), .val (.int i2), .val (.int i3), .val (.int i4), .val (.int i5), .val (.int i6), .val (.int i7), .val (.int i8), .val (.int i9), .val (.int i10), .val (.int i11), .val (.int i12), .val (.int i13), .val (.int i14), .val (.int i15), .val (.ref (n0 + ob16)), .val (.ref (n0 + a22)), .val (.ref (n0 + a24)), .unset, .unset, .unset, .unset, .unset, .unset, .unset, .unset, .unset, .unset, .unset, .unset, .unset, .unset, .unset, .unset, .unset] [(.int (104 : Int32)), (.int (4 : Int32)), (.ref (n0 + a24))])) _
    refine st29 _ ?_
    show Steps p.tables e below (T29.setTop (mkF m 187 #[.val (.int i0), .val (.int i1), .val (.int i2), .val (.int i3), .val (.int i4), .val (.int i5), .val (.int i6), .val (.int i7), .val (.int i8), .val (.int i9), .val (.int i10), .val (.int i11), .val (.int i12), .val (.int i13), .val (.int i14), .val (.int i15), .val (.ref (n0 + ob16)), .val (.ref (n0 + a22)), .val (.ref (n0 + a24)), .unset, .unset, .unset, .unset, .unset, .unset, .unset, .unset, .unset, .unset, .unset, .unset, .unset, .unset, .unset, .unset, .unset] [])) _
    refine XS.aload X29.here hx rfl (hb hby at_187) rfl rfl ?_
    show Steps p.tables e below (T29.setTop (mkF m 189 #[.val (.int i0), .val (.int i1), .val (.int i2), .val (.int i3), .val (.int i4), .val (.int i5), .val (.int i6), .val (.int i7), .val (.int i8), .val (.int i9), .val (.int i10), .val (.int i11), .val (.int i12), .val (.int i13), .val (.int i14), .val (.int i15), .val (.ref (n0 + ob16)), .val (.ref (n0 + a22)), .val (.ref (n0 + a24)), .unset, .unset, .unset, .unset, .unset, .unset, .unset, .unset, .unset, .unset, .unset, .unset, .unset, .unset, .unset, .unset, .unset] [(.ref (n0 + a24))])) _
    refine XS.iconst X29.here hx rfl (hb hby at_189) ?_
    show Steps p.tables e below (T29.setTop (mkF m 190 #[.val (.int i0), .val (.int i1), .val (.int i2), .val (.int i3), .val (.int i4), .val (.int i5), .val (.int i6), .val (.int i7), .val (.int i8), .val (.int i9), .val (.int i10), .val (.int i11), .val (.int i12), .val (.int i13), .val (.int i14), .val (.int i15), .val (.ref (n0 + ob16)), .val (.ref (n0 + a22)), .val (.ref (n0 + a24)), .unset, .unset, .unset, .unset, .unset, .unset, .unset, .unset, .unset, .unset, .unset, .unset, .unset, .unset, .unset, .unset, .unset] [(.int (5 : Int32)), (.ref (n0 + a24))])) _
    refine XS.bipush X29.here hx rfl (hb hby at_190) ?_
    show Steps p.tables e below (T29.setTop (mkF m 192 #[.val (.int i0), .val (.int i1), .val (.int i2), .val (.int i3), .val (.int i4), .val (.int i5), .val (.int i6), .val (.int i7), .val (.int i8), .val (.int i9), .val (.int i10), .val (.int i11), .val (.int i12), .val (.int i13), .val (.int i14), .val (.int i15), .val (.ref (n0 + ob16)), .val (.ref (n0 + a22)), .val (.ref (n0 + a24)), .unset, .unset, .unset, .unset, .unset, .unset, .unset, .unset, .unset, .unset, .unset, .unset, .unset, .unset, .unset, .unset, .unset] [(.int (105 : Int32)), (.int (5 : Int32)), (.ref (n0 + a24))])) _
    refine st30 _ ?_
    show Steps p.tables e below (T30.setTop (mkF m 193 #[.val (.int i0), .val (.int i1), .val (.int i2), .val (.int i3), .val (.int i4), .val (.int i5), .val (.int i6), .val (.int i7), .val (.int i8), .val (.int i9), .val (.int i10), .val (.int i11), .val (.int i12), .val (.int i13), .val (.int i14), .val (.int i15), .val (.ref (n0 + ob16)), .val (.ref (n0 + a22)), .val (.ref (n0 + a24)), .unset, .unset, .unset, .unset, .unset, .unset, .unset, .unset, .unset, .unset, .unset, .unset, .unset, .unset, .unset, .unset, .unset] [])) _
    refine XS.aload X30.here hx rfl (hb hby at_193) rfl rfl ?_
    show Steps p.tables e below (T30.setTop (mkF m 195 #[.val (.int i0), .val (.int i1), .val (.int i2), .val (.int i3), .val (.int i4), .val (.int i5), .val (.int i6), .val (.int i7), .val (.int i8), .val (.int i9), .val (.int i10), .val (.int i11), .val (.int i12), .val (.int i13), .val (.int i14), .val (.int i15), .val (.ref (n0 + ob16)), .val (.ref (n0 + a22)), .val (.ref (n0 + a24)), .unset, .unset, .unset, .unset, .unset, .unset, .unset, .unset, .unset, .unset, .unset, .unset, .unset, .unset, .unset, .unset, .unset] [(.ref (n0 + a24))])) _
    refine XS.bipush X30.here hx rfl (hb hby at_195) ?_
    show Steps p.tables e below (T30.setTop (mkF m 197 #[.val (.int i0), .val (.int i1), .val (.int i2), .val (.int i3), .val (.int i4), .val (.int i5), .val (.int i6), .val (.int i7), .val (.int i8), .val (.int i9), .val (.int i10), .val (.int i11), .val (.int i12), .val (.int i13), .val (.int i14), .val (.int i15), .val (.ref (n0 + ob16)), .val (.ref (n0 + a22)), .val (.ref (n0 + a24)), .unset, .unset, .unset, .unset, .unset, .unset, .unset, .unset, .unset, .unset, .unset, .unset, .unset, .unset, .unset, .unset, .unset] [(.int (6 : Int32)), (.ref (n0 + a24))])) _
    refine XS.bipush X30.here hx rfl (hb hby at_197) ?_
    show Steps p.tables e below (T30.setTop (mkF m 199 #[.val (.int i0), .val (.int i1), .val (.int i2), .val (.int i3), .val (.int i4), .val (.int i5), .val (.int i6), .val (.int i7), .val (.int i8), .val (.int i9), .val (.int i10), .val (.int i11), .val (.int i12), .val (.int i13), .val (.int i14), .val (.int i15), .val (.ref (n0 + ob16)), .val (.ref (n0 + a22)), .val (.ref (n0 + a24)), .unset, .unset, .unset, .unset, .unset, .unset, .unset, .unset, .unset, .unset, .unset, .unset, .unset, .unset, .unset, .unset, .unset] [(.int (106 : Int32)), (.int (6 : Int32)), (.ref (n0 + a24))])) _
    refine st31 _ ?_
    show Steps p.tables e below (T31.setTop (mkF m 200 #[.val (.int i0), .val (.int i1), .val (.int i2), .val (.int i3), .val (.int i4), .val (.int i5), .val (.int i6), .val (.int i7), .val (.int i8), .val (.int i9), .val (.int i10), .val (.int i11), .val (.int i12), .val (.int i13), .val (.int i14), .val (.int i15), .val (.ref (n0 + ob16)), .val (.ref (n0 + a22)), .val (.ref (n0 + a24)), .unset, .unset, .unset, .unset, .unset, .unset, .unset, .unset, .unset, .unset, .unset, .unset, .unset, .unset, .unset, .unset, .unset] [])) _
    refine XS.aload X31.here hx rfl (hb hby at_200) rfl rfl ?_
    show Steps p.tables e below (T31.setTop (mkF m 202 #[.val (.int i0), .val (.int i1), .val (.int i2), .val (.int i3), .val (.int i4), .val (.int i5), .val (.int i6), .val (.int i7), .val (.int i8), .val (.int i9), .val (.int i10), .val (.int i11), .val (.int i12), .val (.int i13), .val (.int i14), .val (.int i15), .val (.ref (n0 + ob16)), .val (.ref (n0 + a22)), .val (.ref (n0 + a24)), .unset, .unset, .unset, .unset, .unset, .unset, .unset, .unset, .unset, .unset, .unset, .unset, .unset, .unset, .unset, .unset, .unset] [(.ref (n0 + a24))])) _
    refine XS.bipush X31.here hx rfl (hb hby at_202) ?_
    show Steps p.tables e below (T31.setTop (mkF m 204 #[.val (.int i0), .val (.int i1), .val (.int i2), .val (.int i3), .val (.int i4), .val (.int i5), .val (.int i6), .val (.int i7), .val (.int i8), .val (.int i9), .val (.int i10), .val (.int i11), .val (.int i12), .val (.int i13), .val (.int i14), .val (.int i15), .val (.ref (n0 + ob16)), .val (.ref (n0 + a22)), .val (.ref (n0 + a24)), .unset, .unset, .unset, .unset, .unset, .unset, .unset, .unset, .unset, .unset, .unset, .unset, .unset, .unset, .unset, .unset, .unset] [(.int (7 : Int32)), (.ref (n0 + a24))])) _
    refine XS.bipush X31.here hx rfl (hb hby at_204) ?_
    show Steps p.tables e below (T31.setTop (mkF m 206 #[.val (.int i0), .val (.int i1), .val (.int i2), .val (.int i3), .val (.int i4), .val (.int i5), .val (.int i6), .val (.int i7), .val (.int i8), .val (.int i9), .val (.int i10), .val (.int i11), .val (.int i12), .val (.int i13), .val (.int i14), .val (.int i15), .val (.ref (n0 + ob16)), .val (.ref (n0 + a22)), .val (.ref (n0 + a24)), .unset, .unset, .unset, .unset, .unset, .unset, .unset, .unset, .unset, .unset, .unset, .unset, .unset, .unset, .unset, .unset, .unset] [(.int (107 : Int32)), (.int (7 : Int32)), (.ref (n0 + a24))])) _
    refine st32 _ ?_
    show Steps p.tables e below (T32.setTop (mkF m 207 #[.val (.int i0), .val (.int i1), .val (.int i2), .val (.int i3), .val (.int i4), .val (.int i5), .val (.int i6), .val (.int i7), .val (.int i8), .val (.int i9), .val (.int i10), .val (.int i11), .val (.int i12), .val (.int i13), .val (.int i14), .val (.int i15), .val (.ref (n0 + ob16)), .val (.ref (n0 + a22)), .val (.ref (n0 + a24)), .unset, .unset, .unset, .unset, .unset, .unset, .unset, .unset, .unset, .unset, .unset, .unset, .unset, .unset, .unset, .unset, .unset] [])) _
    refine XS.aload X32.here hx rfl (hb hby at_207) rfl rfl ?_
    show Steps p.tables e below (T32.setTop (mkF m 209 #[.val (.int i0), .val (.int i1), .val (.int i2), .val (.int i3), .val (.int i4), .val (.int i5), .val (.int i6), .val (.int i7), .val (.int i8), .val (.int i9), .val (.int i10), .val (.int i11), .val (.int i12), .val (.int i13), .val (.int i14), .val (.int i15), .val (.ref (n0 + ob16)), .val (.ref (n0 + a22)), .val (.ref (n0 + a24)), .unset, .unset, .unset, .unset, .unset, .unset, .unset, .unset, .unset, .unset, .unset, .unset, .unset, .unset, .unset, .unset, .unset] [(.ref (n0 + a24))])) _
    refine XS.iload X32.here hx rfl (hb hby at_209) rfl ?_
    show Steps p.tables e below (T32.setTop (mkF m 211 #[.val (.int i0), .val (.int i1), .val (.int i2), .val (.int i3), .val (.int i4), .val (.int i5), .val (.int i6), .val (.int i7), .val (.int i8), .val (.int i9), .val (.int i10), .val (.int i11), .val (.int i12), .val (.int i13), .val (.int i14), .val (.int i15), .val (.ref (n0 + ob16)), .val (.ref (n0 + a22)), .val (.ref (n0 + a24)), .unset, .unset, .unset, .unset, .unset, .unset, .unset, .unset, .unset, .unset, .unset, .unset, .unset, .unset, .unset, .unset, .unset] [(.int i11), (.ref (n0 + a24))])) _
    refine XS.iload X32.here hx rfl (hb hby at_211) rfl ?_
    show Steps p.tables e below (T32.setTop (mkF m 213 #[.val (.int i0), .val (.int i1), .val (.int i2), .val (.int i3), .val (.int i4), .val (.int i5), .val (.int i6), .val (.int i7), .val (.int i8), .val (.int i9), .val (.int i10), .val (.int i11), .val (.int i12), .val (.int i13), .val (.int i14), .val (.int i15), .val (.ref (n0 + ob16)), .val (.ref (n0 + a22)), .val (.ref (n0 + a24)), .unset, .unset, .unset, .unset, .unset, .unset, .unset, .unset, .unset, .unset, .unset, .unset, .unset, .unset, .unset, .unset, .unset] [(.int i12), (.int i11), (.ref (n0 + a24))])) _
    refine st33 _ ?_
    show Steps p.tables e below (T33.setTop (mkF m 214 #[.val (.int i0), .val (.int i1), .val (.int i2), .val (.int i3), .val (.int i4), .val (.int i5), .val (.int i6), .val (.int i7), .val (.int i8), .val (.int i9), .val (.int i10), .val (.int i11), .val (.int i12), .val (.int i13), .val (.int i14), .val (.int i15), .val (.ref (n0 + ob16)), .val (.ref (n0 + a22)), .val (.ref (n0 + a24)), .unset, .unset, .unset, .unset, .unset, .unset, .unset, .unset, .unset, .unset, .unset, .unset, .unset, .unset, .unset, .unset, .unset] [])) _
    refine XS.aload X33.here hx rfl (hb hby at_214) rfl rfl ?_
    show Steps p.tables e below (T33.setTop (mkF m 216 #[.val (.int i0), .val (.int i1), .val (.int i2), .val (.int i3), .val (.int i4), .val (.int i5), .val (.int i6), .val (.int i7), .val (.int i8), .val (.int i9), .val (.int i10), .val (.int i11), .val (.int i12), .val (.int i13), .val (.int i14), .val (.int i15), .val (.ref (n0 + ob16)), .val (.ref (n0 + a22)), .val (.ref (n0 + a24)), .unset, .unset, .unset, .unset, .unset, .unset, .unset, .unset, .unset, .unset, .unset, .unset, .unset, .unset, .unset, .unset, .unset] [(.ref (n0 + a24))])) _
    refine XS.iload X33.here hx rfl (hb hby at_216) rfl ?_
    show Steps p.tables e below (T33.setTop (mkF m 218 #[.val (.int i0), .val (.int i1), .val (.int i2), .val (.int i3), .val (.int i4), .val (.int i5), .val (.int i6), .val (.int i7), .val (.int i8), .val (.int i9), .val (.int i10), .val (.int i11), .val (.int i12), .val (.int i13), .val (.int i14), .val (.int i15), .val (.ref (n0 + ob16)), .val (.ref (n0 + a22)), .val (.ref (n0 + a24)), .unset, .unset, .unset, .unset, .unset, .unset, .unset, .unset, .unset, .unset, .unset, .unset, .unset, .unset, .unset, .unset, .unset] [(.int i11), (.ref (n0 + a24))])) _
    refine XS.iconst X33.here hx rfl (hb hby at_218) ?_
    show Steps p.tables e below (T33.setTop (mkF m 219 #[.val (.int i0), .val (.int i1), .val (.int i2), .val (.int i3), .val (.int i4), .val (.int i5), .val (.int i6), .val (.int i7), .val (.int i8), .val (.int i9), .val (.int i10), .val (.int i11), .val (.int i12), .val (.int i13), .val (.int i14), .val (.int i15), .val (.ref (n0 + ob16)), .val (.ref (n0 + a22)), .val (.ref (n0 + a24)), .unset, .unset, .unset, .unset, .unset, .unset, .unset, .unset, .unset, .unset, .unset, .unset, .unset, .unset, .unset, .unset, .unset] [(.int (1 : Int32)), (.int i11), (.ref (n0 + a24))])) _
    refine XS.iadd X33.here hx rfl (hb hby at_219) rfl ?_
    show Steps p.tables e below (T33.setTop (mkF m 220 #[.val (.int i0), .val (.int i1), .val (.int i2), .val (.int i3), .val (.int i4), .val (.int i5), .val (.int i6), .val (.int i7), .val (.int i8), .val (.int i9), .val (.int i10), .val (.int i11), .val (.int i12), .val (.int i13), .val (.int i14), .val (.int i15), .val (.ref (n0 + ob16)), .val (.ref (n0 + a22)), .val (.ref (n0 + a24)), .unset, .unset, .unset, .unset, .unset, .unset, .unset, .unset, .unset, .unset, .unset, .unset, .unset, .unset, .unset, .unset, .unset] [(.int (i11 + (1 : Int32))), (.ref (n0 + a24))])) _
    refine XS.iload X33.here hx rfl (hb hby at_220) rfl ?_
    show Steps p.tables e below (T33.setTop (mkF m 222 #[.val (.int i0), .val (.int i1), .val (.int i2), .val (.int i3), .val (.int i4), .val (.int i5), .val (.int i6), .val (.int i7), .val (.int i8), .val (.int i9), .val (.int i10), .val (.int i11), .val (.int i12), .val (.int i13), .val (.int i14), .val (.int i15), .val (.ref (n0 + ob16)), .val (.ref (n0 + a22)), .val (.ref (n0 + a24)), .unset, .unset, .unset, .unset, .unset, .unset, .unset, .unset, .unset, .unset, .unset, .unset, .unset, .unset, .unset, .unset, .unset] [(.int i13), (.int (i11 + (1 : Int32))), (.ref (n0 + a24))])) _
    refine st34 _ ?_
    show Steps p.tables e below (T34.setTop (mkF m 223 #[.val (.int i0), .val (.int i1), .val (.int i2), .val (.int i3), .val (.int i4), .val (.int i5), .val (.int i6), .val (.int i7), .val (.int i8), .val (.int i9), .val (.int i10), .val (.int i11), .val (.int i12), .val (.int i13), .val (.int i14), .val (.int i15), .val (.ref (n0 + ob16)), .val (.ref (n0 + a22)), .val (.ref (n0 + a24)), .unset, .unset, .unset, .unset, .unset, .unset, .unset, .unset, .unset, .unset, .unset, .unset, .unset, .unset, .unset, .unset, .unset] [])) _
    refine XS.iload X34.here hx rfl (hb hby at_223) rfl ?_
    show Steps p.tables e below (T34.setTop (mkF m 225 #[.val (.int i0), .val (.int i1), .val (.int i2), .val (.int i3), .val (.int i4), .val (.int i5), .val (.int i6), .val (.int i7), .val (.int i8), .val (.int i9), .val (.int i10), .val (.int i11), .val (.int i12), .val (.int i13), .val (.int i14), .val (.int i15), .val (.ref (n0 + ob16)), .val (.ref (n0 + a22)), .val (.ref (n0 + a24)), .unset, .unset, .unset, .unset, .unset, .unset, .unset, .unset, .unset, .unset, .unset, .unset, .unset, .unset, .unset, .unset, .unset] [(.int i10)])) _
    refine XS.iconst X34.here hx rfl (hb hby at_225) ?_
    exact k
  by_cases hc35 : i10 < (3 : Int32)
  · rw [if_pos hc35] at hf
    refine Gl.on (B := T34.setTop (mkF m 238 #[.val (.int i0), .val (.int i1), .val (.int i2), .val (.int i3), .val (.int i4), .val (.int i5), .val (.int i6), .val (.int i7), .val (.int i8), .val (.int i9), .val (.int i10), .val (.int i11), .val (.int i12), .val (.int i13), .val (.int i14), .val (.int i15), .val (.ref (n0 + ob16)), .val (.ref (n0 + a22)), .val (.ref (n0 + a24)), .unset, .unset, .unset, .unset, .unset, .unset, .unset, .unset, .unset, .unset, .unset, .unset, .unset, .unset, .unset, .unset, .unset] [])) (fun t k => ?_) ?_
    · show Steps p.tables e below (T34.setTop (mkF m 226 #[.val (.int i0), .val (.int i1), .val (.int i2), .val (.int i3), .val (.int i4), .val (.int i5), .val (.int i6), .val (.int i7), .val (.int i8), .val (.int i9), .val (.int i10), .val (.int i11), .val (.int i12), .val (.int i13), .val (.int i14), .val (.int i15), .val (.ref (n0 + ob16)), .val (.ref (n0 + a22)), .val (.ref (n0 + a24)), .unset, .unset, .unset, .unset, .unset, .unset, .unset, .unset, .unset, .unset, .unset, .unset, .unset, .unset, .unset, .unset, .unset] [(.int (3 : Int32)), (.int i10)])) _
      refine XS.icmpYes X34.here hx rfl (pc0 := 226) (pc' := 238) rfl (hb hby at_226) rfl (tlt hc35).1 (by decide) (by decide) ?_
      exact k
    exact bt0_238 hw hC X34 e34 O34 N34 (by omega) (by omega) hf
  · rw [if_neg hc35] at hf
    obtain ⟨D36, hq36, hf⟩ := own_bind hf
    obtain ⟨T36, h36, L36, X36, e36, O36, N36, st36⟩ := stIW X34 hx hZ e34 O34 N34 hq36 rfl (g := (mkF m 237 #[.val (.int i0), .val (.int i1), .val (.int i2), .val (.int i3), .val (.int i4), .val (.int i5), .val (.int i6), .val (.int i7), .val (.int i8), .val (.int i9), .val (.int i10), .val (.int i11), .val (.int i12), .val (.int i13), .val (.int i14), .val (.int i15), .val (.ref (n0 + ob16)), .val (.ref (n0 + a22)), .val (.ref (n0 + a24)), .unset, .unset, .unset, .unset, .unset, .unset, .unset, .unset, .unset, .unset, .unset, .unset, .unset, .unset, .unset, .unset, .unset] [(.int i14), (.int (i11 + (2 : Int32))), (.ref (n0 + a24))])) rfl rfl (hb hby at_237)
    refine Gl.on (B := T36.setTop (mkF m 238 #[.val (.int i0), .val (.int i1), .val (.int i2), .val (.int i3), .val (.int i4), .val (.int i5), .val (.int i6), .val (.int i7), .val (.int i8), .val (.int i9), .val (.int i10), .val (.int i11), .val (.int i12), .val (.int i13), .val (.int i14), .val (.int i15), .val (.ref (n0 + ob16)), .val (.ref (n0 + a22)), .val (.ref (n0 + a24)), .unset, .unset, .unset, .unset, .unset, .unset, .unset, .unset, .unset, .unset, .unset, .unset, .unset, .unset, .unset, .unset, .unset] [])) (fun t k => ?_) ?_
    · show Steps p.tables e below (T34.setTop (mkF m 226 #[.val (.int i0), .val (.int i1), .val (.int i2), .val (.int i3), .val (.int i4), .val (.int i5), .val (.int i6), .val (.int i7), .val (.int i8), .val (.int i9), .val (.int i10), .val (.int i11), .val (.int i12), .val (.int i13), .val (.int i14), .val (.int i15), .val (.ref (n0 + ob16)), .val (.ref (n0 + a22)), .val (.ref (n0 + a24)), .unset, .unset, .unset, .unset, .unset, .unset, .unset, .unset, .unset, .unset, .unset, .unset, .unset, .unset, .unset, .unset, .unset] [(.int (3 : Int32)), (.int i10)])) _
      refine XS.icmpNo X34.here hx rfl (hb hby at_226) rfl (flt hc35).1 ?_
      show Steps p.tables e below (T34.setTop (mkF m 229 #[.val (.int i0), .val (.int i1), .val (.int i2), .val (.int i3), .val (.int i4), .val (.int i5), .val (.int i6), .val (.int i7), .val (.int i8), .val (.int i9), .val (.int i10), .val (.int i11), .val (.int i12), .val (.int i13), .val (.int i14), .val (.int i15), .val (.ref (n0 + ob16)), .val (.ref (n0 + a22)), .val (.ref (n0 + a24)), .unset, .unset, .unset, .unset, .unset, .unset, .unset, .unset, .unset, .unset, .unset, .unset, .unset, .unset, .unset, .unset, .unset] [])) _
      refine XS.aload X34.here hx rfl (hb hby at_229) rfl rfl ?_
      show Steps p.tables e below (T34.setTop (mkF m 231 #[.val (.int i0), .val (.int i1), .val (.int i2), .val (.int i3), .val (.int i4), .val (.int i5), .val (.int i6), .val (.int i7), .val (.int i8), .val (.int i9), .val (.int i10), .val (.int i11), .val (.int i12), .val (.int i13), .val (.int i14), .val (.int i15), .val (.ref (n0 + ob16)), .val (.ref (n0 + a22)), .val (.ref (n0 + a24)), .unset, .unset, .unset, .unset, .unset, .unset, .unset, .unset, .unset, .unset, .unset, .unset, .unset, .unset, .unset, .unset, .unset] [(.ref (n0 + a24))])) _
      refine XS.iload X34.here hx rfl (hb hby at_231) rfl ?_
      show Steps p.tables e below (T34.setTop (mkF m 233 #[.val (.int i0), .val (.int i1), .val (.int i2), .val (.int i3), .val (.int i4), .val (.int i5), .val (.int i6), .val (.int i7), .val (.int i8), .val (.int i9), .val (.int i10), .val (.int i11), .val (.int i12), .val (.int i13), .val (.int i14), .val (.int i15), .val (.ref (n0 + ob16)), .val (.ref (n0 + a22)), .val (.ref (n0 + a24)), .unset, .unset, .unset, .unset, .unset, .unset, .unset, .unset, .unset, .unset, .unset, .unset, .unset, .unset, .unset, .unset, .unset] [(.int i11), (.ref (n0 + a24))])) _
      refine XS.iconst X34.here hx rfl (hb hby at_233) ?_
      show Steps p.tables e below (T34.setTop (mkF m 234 #[.val (.int i0), .val (.int i1), .val (.int i2), .val (.int i3), .val (.int i4), .val (.int i5), .val (.int i6), .val (.int i7), .val (.int i8), .val (.int i9), .val (.int i10), .val (.int i11), .val (.int i12), .val (.int i13), .val (.int i14), .val (.int i15), .val (.ref (n0 + ob16)), .val (.ref (n0 + a22)), .val (.ref (n0 + a24)), .unset, .unset, .unset, .unset, .unset, .unset, .unset, .unset, .unset, .unset, .unset, .unset, .unset, .unset, .unset, .unset, .unset] [(.int (2 : Int32)), (.int i11), (.ref (n0 + a24))])) _
      refine XS.iadd X34.here hx rfl (hb hby at_234) rfl ?_
      show Steps p.tables e below (T34.setTop (mkF m 235 #[.val (.int i0), .val (.int i1), .val (.int i2), .val (.int i3), .val (.int i4), .val (.int i5), .val (.int i6), .val (.int i7), .val (.int i8), .val (.int i9), .val (.int i10), .val (.int i11), .val (.int i12), .val (.int i13), .val (.int i14), .val (.int i15), .val (.ref (n0 + ob16)), .val (.ref (n0 + a22)), .val (.ref (n0 + a24)), .unset, .unset, .unset, .unset, .unset, .unset, .unset, .unset, .unset, .unset, .unset, .unset, .unset, .unset, .unset, .unset, .unset] [(.int (i11 + (2 : Int32))), (.ref (n0 + a24))])) _
      refine XS.iload X34.here hx rfl (hb hby at_235) rfl ?_
      show Steps p.tables e below (T34.setTop (mkF m 237 #[.val (.int i0), .val (.int i1), .val (.int i2), .val (.int i3), .val (.int i4), .val (.int i5), .val (.int i6), .val (.int i7), .val (.int i8), .val (.int i9), .val (.int i10), .val (.int i11), .val (.int i12), .val (.int i13), .val (.int i14), .val (.int i15), .val (.ref (n0 + ob16)), .val (.ref (n0 + a22)), .val (.ref (n0 + a24)), .unset, .unset, .unset, .unset, .unset, .unset, .unset, .unset, .unset, .unset, .unset, .unset, .unset, .unset, .unset, .unset, .unset] [(.int i14), (.int (i11 + (2 : Int32))), (.ref (n0 + a24))])) _
      refine st36 _ ?_
      exact k
    exact bt0_238 hw hC X36 e36 O36 N36 (by omega) (by omega) hf
def b0_128 (D : Hp) (i6 : Int32) (i7 : Int32) (i8 : Int32) (i9 : Int32) (i10 : Int32) (i11 : Int32) (i12 : Int32) (i13 : Int32) (i14 : Int32) (i15 : Int32) (ob16 : Nat) : Option (Int32 × Hp) :=
  if i10 < (4 : Int32) then (b0_140 D i6 i7 i8 i9 i10 i11 i12 i13 i14 i15 ob16) else ((wV D ob16 0 (3 : Int32) (.int i9)).bind fun D21 =>
  b0_140 D21 i6 i7 i8 i9 i10 i11 i12 i13 i14 i15 ob16)
set_option maxRecDepth 65536 in
set_option maxHeartbeats 40000000 in
theorem bt0_128 {p : Program} {l : Launch} {e : Env} {s : State} {m : MethodId} {args : Array Value} {below : List Frame} {meth : Method} {c : Code} {Z : State} {a0 : Array Value} {n0 : Nat} {D' : Hp} {r : Int32} {T0 : State} {locs : List Loc} {cells slots : Nat} {h0 : Heap} {D : Hp} {i0 : Int32} {i1 : Int32} {i2 : Int32} {i3 : Int32} {i4 : Int32} {i5 : Int32} {i6 : Int32} {i7 : Int32} {i8 : Int32} {i9 : Int32} {i10 : Int32} {i11 : Int32} {i12 : Int32} {i13 : Int32} {i14 : Int32} {i15 : Int32} {ob16 : Nat} (hw : ∀ d ∈ tables_1, d.before a0 Z = true) (hC : Cx p s m meth c Z code maxLocals ret "com/example/pathweave/pathweave/core/PairIndexPairsOfPinLaw" "law") (X0 : Stand p l e room_1 s m args below meth c T0 locs cells slots) (e0 : T0.heap = h0) (O0 : Ow Kt1 Z h0 n0 D) (N0 : Fr n0 locs) (hcc : cells ≤ 1) (hss : slots ≤ 8) (hf : b0_128 D i6 i7 i8 i9 i10 i11 i12 i13 i14 i15 ob16 = some (r, D')) : Gl p e below s 24 192 (Qw Kt1 Z n0 (some (.int r)) D') (T0.setTop (mkF m 128 #[.val (.int i0), .val (.int i1), .val (.int i2), .val (.int i3), .val (.int i4), .val (.int i5), .val (.int i6), .val (.int i7), .val (.int i8), .val (.int i9), .val (.int i10), .val (.int i11), .val (.int i12), .val (.int i13), .val (.int i14), .val (.int i15), .val (.ref (n0 + ob16)), .unset, .unset, .unset, .unset, .unset, .unset, .unset, .unset, .unset, .unset, .unset, .unset, .unset, .unset, .unset, .unset, .unset, .unset, .unset] [])) := by
  obtain ⟨hx, hZ, hby, hml, hown, hnm, hret, hlk⟩ := id hC
  have hml : c.maxLocals = 36 := hml
  rw [b0_128] at hf
  refine Gl.on (B := T0.setTop (mkF m 131 #[.val (.int i0), .val (.int i1), .val (.int i2), .val (.int i3), .val (.int i4), .val (.int i5), .val (.int i6), .val (.int i7), .val (.int i8), .val (.int i9), .val (.int i10), .val (.int i11), .val (.int i12), .val (.int i13), .val (.int i14), .val (.int i15), .val (.ref (n0 + ob16)), .unset, .unset, .unset, .unset, .unset, .unset, .unset, .unset, .unset, .unset, .unset, .unset, .unset, .unset, .unset, .unset, .unset, .unset, .unset] [(.int (4 : Int32)), (.int i10)])) (fun t k => ?_) ?_
  · show Steps p.tables e below (T0.setTop (mkF m 128 #[.val (.int i0), .val (.int i1), .val (.int i2), .val (.int i3), .val (.int i4), .val (.int i5), .val (.int i6), .val (.int i7), .val (.int i8), .val (.int i9), .val (.int i10), .val (.int i11), .val (.int i12), .val (.int i13), .val (.int i14), .val (.int i15), .val (.ref (n0 + ob16)), .unset, .unset, .unset, .unset, .unset, .unset, .unset, .unset, .unset, .unset, .unset, .unset, .unset, .unset, .unset, .unset, .unset, .unset, .unset] [])) _
    refine XS.iload X0.here hx rfl (hb hby at_128) rfl ?_
    show Steps p.tables e below (T0.setTop (mkF m 130 #[.val (.int i0), .val (.int i1), .val (.int i2), .val (.int i3), .val (.int i4), .val (.int i5), .val (.int i6), .val (.int i7), .val (.int i8), .val (.int i9), .val (.int i10), .val (.int i11), .val (.int i12), .val (.int i13), .val (.int i14), .val (.int i15), .val (.ref (n0 + ob16)), .unset, .unset, .unset, .unset, .unset, .unset, .unset, .unset, .unset, .unset, .unset, .unset, .unset, .unset, .unset, .unset, .unset, .unset, .unset] [(.int i10)])) _
    refine XS.iconst X0.here hx rfl (hb hby at_130) ?_
    exact k
  by_cases hc20 : i10 < (4 : Int32)
  · rw [if_pos hc20] at hf
    refine Gl.on (B := T0.setTop (mkF m 140 #[.val (.int i0), .val (.int i1), .val (.int i2), .val (.int i3), .val (.int i4), .val (.int i5), .val (.int i6), .val (.int i7), .val (.int i8), .val (.int i9), .val (.int i10), .val (.int i11), .val (.int i12), .val (.int i13), .val (.int i14), .val (.int i15), .val (.ref (n0 + ob16)), .unset, .unset, .unset, .unset, .unset, .unset, .unset, .unset, .unset, .unset, .unset, .unset, .unset, .unset, .unset, .unset, .unset, .unset, .unset] [])) (fun t k => ?_) ?_
    · show Steps p.tables e below (T0.setTop (mkF m 131 #[.val (.int i0), .val (.int i1), .val (.int i2), .val (.int i3), .val (.int i4), .val (.int i5), .val (.int i6), .val (.int i7), .val (.int i8), .val (.int i9), .val (.int i10), .val (.int i11), .val (.int i12), .val (.int i13), .val (.int i14), .val (.int i15), .val (.ref (n0 + ob16)), .unset, .unset, .unset, .unset, .unset, .unset, .unset, .unset, .unset, .unset, .unset, .unset, .unset, .unset, .unset, .unset, .unset, .unset, .unset] [(.int (4 : Int32)), (.int i10)])) _
      refine XS.icmpYes X0.here hx rfl (pc0 := 131) (pc' := 140) rfl (hb hby at_131) rfl (tlt hc20).1 (by decide) (by decide) ?_
      exact k
    exact bt0_140 hw hC X0 e0 O0 N0 (by omega) (by omega) hf
  · rw [if_neg hc20] at hf
    obtain ⟨D21, hq21, hf⟩ := own_bind hf
    obtain ⟨T21, h21, L21, X21, e21, O21, N21, st21⟩ := stIW X0 hx hZ e0 O0 N0 hq21 rfl (g := (mkF m 139 #[.val (.int i0), .val (.int i1), .val (.int i2), .val (.int i3), .val (.int i4), .val (.int i5), .val (.int i6), .val (.int i7), .val (.int i8), .val (.int i9), .val (.int i10), .val (.int i11), .val (.int i12), .val (.int i13), .val (.int i14), .val (.int i15), .val (.ref (n0 + ob16)), .unset, .unset, .unset, .unset, .unset, .unset, .unset, .unset, .unset, .unset, .unset, .unset, .unset, .unset, .unset, .unset, .unset, .unset, .unset] [(.int i9), (.int (3 : Int32)), (.ref (n0 + ob16))])) rfl rfl (hb hby at_139)
    refine Gl.on (B := T21.setTop (mkF m 140 #[.val (.int i0), .val (.int i1), .val (.int i2), .val (.int i3), .val (.int i4), .val (.int i5), .val (.int i6), .val (.int i7), .val (.int i8), .val (.int i9), .val (.int i10), .val (.int i11), .val (.int i12), .val (.int i13), .val (.int i14), .val (.int i15), .val (.ref (n0 + ob16)), .unset, .unset, .unset, .unset, .unset, .unset, .unset, .unset, .unset, .unset, .unset, .unset, .unset, .unset, .unset, .unset, .unset, .unset, .unset] [])) (fun t k => ?_) ?_
    · show Steps p.tables e below (T0.setTop (mkF m 131 #[.val (.int i0), .val (.int i1), .val (.int i2), .val (.int i3), .val (.int i4), .val (.int i5), .val (.int i6), .val (.int i7), .val (.int i8), .val (.int i9), .val (.int i10), .val (.int i11), .val (.int i12), .val (.int i13), .val (.int i14), .val (.int i15), .val (.ref (n0 + ob16)), .unset, .unset, .unset, .unset, .unset, .unset, .unset, .unset, .unset, .unset, .unset, .unset, .unset, .unset, .unset, .unset, .unset, .unset, .unset] [(.int (4 : Int32)), (.int i10)])) _
      refine XS.icmpNo X0.here hx rfl (hb hby at_131) rfl (flt hc20).1 ?_
      show Steps p.tables e below (T0.setTop (mkF m 134 #[.val (.int i0), .val (.int i1), .val (.int i2), .val (.int i3), .val (.int i4), .val (.int i5), .val (.int i6), .val (.int i7), .val (.int i8), .val (.int i9), .val (.int i10), .val (.int i11), .val (.int i12), .val (.int i13), .val (.int i14), .val (.int i15), .val (.ref (n0 + ob16)), .unset, .unset, .unset, .unset, .unset, .unset, .unset, .unset, .unset, .unset, .unset, .unset, .unset, .unset, .unset, .unset, .unset, .unset, .unset] [])) _
      refine XS.aload X0.here hx rfl (hb hby at_134) rfl rfl ?_
      show Steps p.tables e below (T0.setTop (mkF m 136 #[.val (.int i0), .val (.int i1), .val (.int i2), .val (.int i3), .val (.int i4), .val (.int i5), .val (.int i6), .val (.int i7), .val (.int i8), .val (.int i9), .val (.int i10), .val (.int i11), .val (.int i12), .val (.int i13), .val (.int i14), .val (.int i15), .val (.ref (n0 + ob16)), .unset, .unset, .unset, .unset, .unset, .unset, .unset, .unset, .unset, .unset, .unset, .unset, .unset, .unset, .unset, .unset, .unset, .unset, .unset] [(.ref (n0 + ob16))])) _
      refine XS.iconst X0.here hx rfl (hb hby at_136) ?_
      show Steps p.tables e below (T0.setTop (mkF m 137 #[.val (.int i0), .val (.int i1), .val (.int i2), .val (.int i3), .val (.int i4), .val (.int i5), .val (.int i6), .val (.int i7), .val (.int i8), .val (.int i9), .val (.int i10), .val (.int i11), .val (.int i12), .val (.int i13), .val (.int i14), .val (.int i15), .val (.ref (n0 + ob16)), .unset, .unset, .unset, .unset, .unset, .unset, .unset, .unset, .unset, .unset, .unset, .unset, .unset, .unset, .unset, .unset, .unset, .unset, .unset] [(.int (3 : Int32)), (.ref (n0 + ob16))])) _
      refine XS.iload X0.here hx rfl (hb hby at_137) rfl ?_
      show Steps p.tables e below (T0.setTop (mkF m 139 #[.val (.int i0), .val (.int i1), .val (.int i2), .val (.int i3), .val (.int i4), .val (.int i5), .val (.int i6), .val (.int i7), .val (.int i8), .val (.int i9), .val (.int i10), .val (.int i11), .val (.int i12), .val (.int i13), .val (.int i14), .val (.int i15), .val (.ref (n0 + ob16)), .unset, .unset, .unset, .unset, .unset, .unset, .unset, .unset, .unset, .unset, .unset, .unset, .unset, .unset, .unset, .unset, .unset, .unset, .unset] [(.int i9), (.int (3 : Int32)), (.ref (n0 + ob16))])) _
      refine st21 _ ?_
      exact k
    exact bt0_140 hw hC X21 e21 O21 N21 (by omega) (by omega) hf
def f0 (D : Hp) (i0 : Int32) (i1 : Int32) (i2 : Int32) (i3 : Int32) (i4 : Int32) (i5 : Int32) : Option (Int32 × Hp) :=
  own_let ((i0 &&& (7 : Int32)) + (1 : Int32)) fun v1 =>
  own_let ((((i0.toUInt32 >>> ((3 : Int32) &&& 31).toUInt32).toInt32) &&& (7 : Int32)) + (1 : Int32)) fun v2 =>
  own_let ((((i0.toUInt32 >>> ((6 : Int32) &&& 31).toUInt32).toInt32) &&& (7 : Int32)) + (1 : Int32)) fun v3 =>
  own_let ((((i0.toUInt32 >>> ((9 : Int32) &&& 31).toUInt32).toInt32) &&& (7 : Int32)) + (1 : Int32)) fun v4 =>
  own_let ((2 : Int32) + ((i5 &&& (255 : Int32)) % (3 : Int32))) fun v5 =>
  own_let (((i5.toUInt32 >>> ((8 : Int32) &&& 31).toUInt32).toInt32) &&& (3 : Int32)) fun v6 =>
  if v1 = (0 : Int32) then none else
  own_let ((i1 &&& (2147483647 : Int32)) % v1) fun v8 =>
  if v2 = (0 : Int32) then none else
  own_let ((i2 &&& (2147483647 : Int32)) % v2) fun v10 =>
  if v3 = (0 : Int32) then none else
  own_let ((i3 &&& (2147483647 : Int32)) % v3) fun v12 =>
  if v4 = (0 : Int32) then none else
  own_let ((i4 &&& (2147483647 : Int32)) % v4) fun v14 =>
  own_let (D.length) fun a15 => (nA D 0 v5 8 (.int (0 : Int32))).bind fun D15 =>
  (wV D15 a15 0 (0 : Int32) (.int v1)).bind fun D16 =>
  (wV D16 a15 0 (1 : Int32) (.int v2)).bind fun D17 =>
  if v5 < (3 : Int32) then (b0_128 D17 v1 v2 v3 v4 v5 v6 v8 v10 v12 v14 a15) else ((wV D17 a15 0 (2 : Int32) (.int v3)).bind fun D19 =>
  b0_128 D19 v1 v2 v3 v4 v5 v6 v8 v10 v12 v14 a15)
theorem ef_0 (m : MethodId) (i0 : Int32) (i1 : Int32) (i2 : Int32) (i3 : Int32) (i4 : Int32) (i5 : Int32) : entryFrame m #[(.int i0), (.int i1), (.int i2), (.int i3), (.int i4), (.int i5)] maxLocals = mkF m 0 #[.val (.int i0), .val (.int i1), .val (.int i2), .val (.int i3), .val (.int i4), .val (.int i5), .unset, .unset, .unset, .unset, .unset, .unset, .unset, .unset, .unset, .unset, .unset, .unset, .unset, .unset, .unset, .unset, .unset, .unset, .unset, .unset, .unset, .unset, .unset, .unset, .unset, .unset, .unset, .unset, .unset, .unset] [] := by first | (simp [entryFrame, mkF, argsToLocals, Value.category, maxLocals]; done) | rfl
set_option maxRecDepth 65536 in
set_option maxHeartbeats 40000000 in
theorem ct0 {l : Launch} {Z : State} {a0 : Array Value} (hw : ∀ d ∈ tables_1, d.before a0 Z = true) {n0 : Nat} {D D' : Hp} {i0 : Int32} {i1 : Int32} {i2 : Int32} {i3 : Int32} {i4 : Int32} {i5 : Int32} {r : Int32} (hf : f0 D i0 i1 i2 i3 i4 i5 = some (r, D')) :
    Ct Kt1 l Z x (.code x code maxLocals ret) room_1 n0 D #[(.int i0), (.int i1), (.int i2), (.int i3), (.int i4), (.int i5)] (some (.int r)) D' := by
  refine Ct.of (plainFor_of_name pn_0) ?_
  intro p e s m below meth c T0 h0 hC X0 e0 O0
  obtain ⟨hx, hZ, hby, hml, hown, hnm, hret, hlk⟩ := id hC
  have hml : c.maxLocals = 36 := hml
  have hown : s.vm.findClass "com/example/pathweave/pathweave/core/PairIndexPairsOfPinLaw" = some m.cls := hown
  have hnm : meth.name = "law" := hnm
  have N0 := Fr.nil n0
  refine Gl.on (fun t k => castTop (ef_0 m i0 i1 i2 i3 i4 i5) k) ?_
  rw [f0] at hf
  obtain ⟨v1, hv1, hf⟩ := own_letE hf
  obtain ⟨v2, hv2, hf⟩ := own_letE hf
  obtain ⟨v3, hv3, hf⟩ := own_letE hf
  obtain ⟨v4, hv4, hf⟩ := own_letE hf
  obtain ⟨v5, hv5, hf⟩ := own_letE hf
  obtain ⟨v6, hv6, hf⟩ := own_letE hf
  refine Gl.on (B := T0.setTop (mkF m 67 #[.val (.int i0), .val (.int i1), .val (.int i2), .val (.int i3), .val (.int i4), .val (.int i5), .val (.int v1), .val (.int v2), .val (.int v3), .val (.int v4), .val (.int v5), .val (.int v6), .unset, .unset, .unset, .unset, .unset, .unset, .unset, .unset, .unset, .unset, .unset, .unset, .unset, .unset, .unset, .unset, .unset, .unset, .unset, .unset, .unset, .unset, .unset, .unset] [(.int v1), (.int (i1 &&& (2147483647 : Int32)))])) (fun t k => ?_) ?_
  · show Steps p.tables e below (T0.setTop (mkF m 0 #[.val (.int i0), .val (.int i1), .val (.int i2), .val (.int i3), .val (.int i4), .val (.int i5), .unset, .unset, .unset, .unset, .unset, .unset, .unset, .unset, .unset, .unset, .unset, .unset, .unset, .unset, .unset, .unset, .unset, .unset, .unset, .unset, .unset, .unset, .unset, .unset, .unset, .unset, .unset, .unset, .unset, .unset] [])) _
    refine XS.iloadN X0.here hx rfl (hb hby at_0) rfl ?_
    show Steps p.tables e below (T0.setTop (mkF m 1 #[.val (.int i0), .val (.int i1), .val (.int i2), .val (.int i3), .val (.int i4), .val (.int i5), .unset, .unset, .unset, .unset, .unset, .unset, .unset, .unset, .unset, .unset, .unset, .unset, .unset, .unset, .unset, .unset, .unset, .unset, .unset, .unset, .unset, .unset, .unset, .unset, .unset, .unset, .unset, .unset, .unset, .unset] [(.int i0)])) _
    refine XS.bipush X0.here hx rfl (hb hby at_1) ?_
    show Steps p.tables e below (T0.setTop (mkF m 3 #[.val (.int i0), .val (.int i1), .val (.int i2), .val (.int i3), .val (.int i4), .val (.int i5), .unset, .unset, .unset, .unset, .unset, .unset, .unset, .unset, .unset, .unset, .unset, .unset, .unset, .unset, .unset, .unset, .unset, .unset, .unset, .unset, .unset, .unset, .unset, .unset, .unset, .unset, .unset, .unset, .unset, .unset] [(.int (7 : Int32)), (.int i0)])) _
    refine XS.iand X0.here hx rfl (hb hby at_3) rfl ?_
    show Steps p.tables e below (T0.setTop (mkF m 4 #[.val (.int i0), .val (.int i1), .val (.int i2), .val (.int i3), .val (.int i4), .val (.int i5), .unset, .unset, .unset, .unset, .unset, .unset, .unset, .unset, .unset, .unset, .unset, .unset, .unset, .unset, .unset, .unset, .unset, .unset, .unset, .unset, .unset, .unset, .unset, .unset, .unset, .unset, .unset, .unset, .unset, .unset] [(.int (i0 &&& (7 : Int32)))])) _
    refine XS.iconst X0.here hx rfl (hb hby at_4) ?_
    show Steps p.tables e below (T0.setTop (mkF m 5 #[.val (.int i0), .val (.int i1), .val (.int i2), .val (.int i3), .val (.int i4), .val (.int i5), .unset, .unset, .unset, .unset, .unset, .unset, .unset, .unset, .unset, .unset, .unset, .unset, .unset, .unset, .unset, .unset, .unset, .unset, .unset, .unset, .unset, .unset, .unset, .unset, .unset, .unset, .unset, .unset, .unset, .unset] [(.int (1 : Int32)), (.int (i0 &&& (7 : Int32)))])) _
    refine XS.iadd X0.here hx rfl (hb hby at_5) rfl ?_
    show Steps p.tables e below (T0.setTop (mkF m 6 #[.val (.int i0), .val (.int i1), .val (.int i2), .val (.int i3), .val (.int i4), .val (.int i5), .unset, .unset, .unset, .unset, .unset, .unset, .unset, .unset, .unset, .unset, .unset, .unset, .unset, .unset, .unset, .unset, .unset, .unset, .unset, .unset, .unset, .unset, .unset, .unset, .unset, .unset, .unset, .unset, .unset, .unset] [(.int ((i0 &&& (7 : Int32)) + (1 : Int32)))])) _
    refine own_to (congrArg (fun z => T0.setTop (mkF m 6 #[.val (.int i0), .val (.int i1), .val (.int i2), .val (.int i3), .val (.int i4), .val (.int i5), .unset, .unset, .unset, .unset, .unset, .unset, .unset, .unset, .unset, .unset, .unset, .unset, .unset, .unset, .unset, .unset, .unset, .unset, .unset, .unset, .unset, .unset, .unset, .unset, .unset, .unset, .unset, .unset, .unset, .unset] [(.int z)])) hv1) ?_
    show Steps p.tables e below (T0.setTop (mkF m 6 #[.val (.int i0), .val (.int i1), .val (.int i2), .val (.int i3), .val (.int i4), .val (.int i5), .unset, .unset, .unset, .unset, .unset, .unset, .unset, .unset, .unset, .unset, .unset, .unset, .unset, .unset, .unset, .unset, .unset, .unset, .unset, .unset, .unset, .unset, .unset, .unset, .unset, .unset, .unset, .unset, .unset, .unset] [(.int v1)])) _
    refine XS.istore X0.here hx rfl (hb hby at_6) rfl (l' := #[.val (.int i0), .val (.int i1), .val (.int i2), .val (.int i3), .val (.int i4), .val (.int i5), .val (.int v1), .unset, .unset, .unset, .unset, .unset, .unset, .unset, .unset, .unset, .unset, .unset, .unset, .unset, .unset, .unset, .unset, .unset, .unset, .unset, .unset, .unset, .unset, .unset, .unset, .unset, .unset, .unset, .unset, .unset]) rfl ?_
    show Steps p.tables e below (T0.setTop (mkF m 8 #[.val (.int i0), .val (.int i1), .val (.int i2), .val (.int i3), .val (.int i4), .val (.int i5), .val (.int v1), .unset, .unset, .unset, .unset, .unset, .unset, .unset, .unset, .unset, .unset, .unset, .unset, .unset, .unset, .unset, .unset, .unset, .unset, .unset, .unset, .unset, .unset, .unset, .unset, .unset, .unset, .unset, .unset, .unset] [])) _
    refine XS.iloadN X0.here hx rfl (hb hby at_8) rfl ?_
    show Steps p.tables e below (T0.setTop (mkF m 9 #[.val (.int i0), .val (.int i1), .val (.int i2), .val (.int i3), .val (.int i4), .val (.int i5), .val (.int v1), .unset, .unset, .unset, .unset, .unset, .unset, .unset, .unset, .unset, .unset, .unset, .unset, .unset, .unset, .unset, .unset, .unset, .unset, .unset, .unset, .unset, .unset, .unset, .unset, .unset, .unset, .unset, .unset, .unset] [(.int i0)])) _
    refine XS.iconst X0.here hx rfl (hb hby at_9) ?_
    show Steps p.tables e below (T0.setTop (mkF m 10 #[.val (.int i0), .val (.int i1), .val (.int i2), .val (.int i3), .val (.int i4), .val (.int i5), .val (.int v1), .unset, .unset, .unset, .unset, .unset, .unset, .unset, .unset, .unset, .unset, .unset, .unset, .unset, .unset, .unset, .unset, .unset, .unset, .unset, .unset, .unset, .unset, .unset, .unset, .unset, .unset, .unset, .unset, .unset] [(.int (3 : Int32)), (.int i0)])) _
    refine XS.iushr X0.here hx rfl (hb hby at_10) rfl ?_
    show Steps p.tables e below (T0.setTop (mkF m 11 #[.val (.int i0), .val (.int i1), .val (.int i2), .val (.int i3), .val (.int i4), .val (.int i5), .val (.int v1), .unset, .unset, .unset, .unset, .unset, .unset, .unset, .unset, .unset, .unset, .unset, .unset, .unset, .unset, .unset, .unset, .unset, .unset, .unset, .unset, .unset, .unset, .unset, .unset, .unset, .unset, .unset, .unset, .unset] [(.int ((i0.toUInt32 >>> ((3 : Int32) &&& 31).toUInt32).toInt32))])) _
    refine XS.bipush X0.here hx rfl (hb hby at_11) ?_
    show Steps p.tables e below (T0.setTop (mkF m 13 #[.val (.int i0), .val (.int i1), .val (.int i2), .val (.int i3), .val (.int i4), .val (.int i5), .val (.int v1), .unset, .unset, .unset, .unset, .unset, .unset, .unset, .unset, .unset, .unset, .unset, .unset, .unset, .unset, .unset, .unset, .unset, .unset, .unset, .unset, .unset, .unset, .unset, .unset, .unset, .unset, .unset, .unset, .unset] [(.int (7 : Int32)), (.int ((i0.toUInt32 >>> ((3 : Int32) &&& 31).toUInt32).toInt32))])) _
    refine XS.iand X0.here hx rfl (hb hby at_13) rfl ?_
    show Steps p.tables e below (T0.setTop (mkF m 14 #[.val (.int i0), .val (.int i1), .val (.int i2), .val (.int i3), .val (.int i4), .val (.int i5), .val (.int v1), .unset, .unset, .unset, .unset, .unset, .unset, .unset, .unset, .unset, .unset, .unset, .unset, .unset, .unset, .unset, .unset, .unset, .unset, .unset, .unset, .unset, .unset, .unset, .unset, .unset, .unset, .unset, .unset, .unset] [(.int (((i0.toUInt32 >>> ((3 : Int32) &&& 31).toUInt32).toInt32) &&& (7 : Int32)))])) _
    refine XS.iconst X0.here hx rfl (hb hby at_14) ?_
    show Steps p.tables e below (T0.setTop (mkF m 15 #[.val (.int i0), .val (.int i1), .val (.int i2), .val (.int i3), .val (.int i4), .val (.int i5), .val (.int v1), .unset, .unset, .unset, .unset, .unset, .unset, .unset, .unset, .unset, .unset, .unset, .unset, .unset, .unset, .unset, .unset, .unset, .unset, .unset, .unset, .unset, .unset, .unset, .unset, .unset, .unset, .unset, .unset, .unset] [(.int (1 : Int32)), (.int (((i0.toUInt32 >>> ((3 : Int32) &&& 31).toUInt32).toInt32) &&& (7 : Int32)))])) _
    refine XS.iadd X0.here hx rfl (hb hby at_15) rfl ?_
    show Steps p.tables e below (T0.setTop (mkF m 16 #[.val (.int i0), .val (.int i1), .val (.int i2), .val (.int i3), .val (.int i4), .val (.int i5), .val (.int v1), .unset, .unset, .unset, .unset, .unset, .unset, .unset, .unset, .unset, .unset, .unset, .unset, .unset, .unset, .unset, .unset, .unset, .unset, .unset, .unset, .unset, .unset, .unset, .unset, .unset, .unset, .unset, .unset, .unset] [(.int ((((i0.toUInt32 >>> ((3 : Int32) &&& 31).toUInt32).toInt32) &&& (7 : Int32)) + (1 : Int32)))])) _
    refine own_to (congrArg (fun z => T0.setTop (mkF m 16 #[.val (.int i0), .val (.int i1), .val (.int i2), .val (.int i3), .val (.int i4), .val (.int i5), .val (.int v1), .unset, .unset, .unset, .unset, .unset, .unset, .unset, .unset, .unset, .unset, .unset, .unset, .unset, .unset, .unset, .unset, .unset, .unset, .unset, .unset, .unset, .unset, .unset, .unset, .unset, .unset, .unset, .unset, .unset] [(.int z)])) hv2) ?_
    show Steps p.tables e below (T0.setTop (mkF m 16 #[.val (.int i0), .val (.int i1), .val (.int i2), .val (.int i3), .val (.int i4), .val (.int i5), .val (.int v1), .unset, .unset, .unset, .unset, .unset, .unset, .unset, .unset, .unset, .unset, .unset, .unset, .unset, .unset, .unset, .unset, .unset, .unset, .unset, .unset, .unset, .unset, .unset, .unset, .unset, .unset, .unset, .unset, .unset] [(.int v2)])) _
    refine XS.istore X0.here hx rfl (hb hby at_16) rfl (l' := #[.val (.int i0), .val (.int i1), .val (.int i2), .val (.int i3), .val (.int i4), .val (.int i5), .val (.int v1), .val (.int v2), .unset, .unset, .unset, .unset, .unset, .unset, .unset, .unset, .unset, .unset, .unset, .unset, .unset, .unset, .unset, .unset, .unset, .unset, .unset, .unset, .unset, .unset, .unset, .unset, .unset, .unset, .unset, .unset]) rfl ?_
    show Steps p.tables e below (T0.setTop (mkF m 18 #[.val (.int i0), .val (.int i1), .val (.int i2), .val (.int i3), .val (.int i4), .val (.int i5), .val (.int v1), .val (.int v2), .unset, .unset, .unset, .unset, .unset, .unset, .unset, .unset, .unset, .unset, .unset, .unset, .unset, .unset, .unset, .unset, .unset, .unset, .unset, .unset, .unset, .unset, .unset, .unset, .unset, .unset, .unset, .unset] [])) _
    refine XS.iloadN X0.here hx rfl (hb hby at_18) rfl ?_
    show Steps p.tables e below (T0.setTop (mkF m 19 #[.val (.int i0), .val (.int i1), .val (.int i2), .val (.int i3), .val (.int i4), .val (.int i5), .val (.int v1), .val (.int v2), .unset, .unset, .unset, .unset, .unset, .unset, .unset, .unset, .unset, .unset, .unset, .unset, .unset, .unset, .unset, .unset, .unset, .unset, .unset, .unset, .unset, .unset, .unset, .unset, .unset, .unset, .unset, .unset] [(.int i0)])) _
    refine XS.bipush X0.here hx rfl (hb hby at_19) ?_
    show Steps p.tables e below (T0.setTop (mkF m 21 #[.val (.int i0), .val (.int i1), .val (.int i2), .val (.int i3), .val (.int i4), .val (.int i5), .val (.int v1), .val (.int v2), .unset, .unset, .unset, .unset, .unset, .unset, .unset, .unset, .unset, .unset, .unset, .unset, .unset, .unset, .unset, .unset, .unset, .unset, .unset, .unset, .unset, .unset, .unset, .unset, .unset, .unset, .unset, .unset] [(.int (6 : Int32)), (.int i0)])) _
    refine XS.iushr X0.here hx rfl (hb hby at_21) rfl ?_
    show Steps p.tables e below (T0.setTop (mkF m 22 #[.val (.int i0), .val (.int i1), .val (.int i2), .val (.int i3), .val (.int i4), .val (.int i5), .val (.int v1), .val (.int v2), .unset, .unset, .unset, .unset, .unset, .unset, .unset, .unset, .unset, .unset, .unset, .unset, .unset, .unset, .unset, .unset, .unset, .unset, .unset, .unset, .unset, .unset, .unset, .unset, .unset, .unset, .unset, .unset] [(.int ((i0.toUInt32 >>> ((6 : Int32) &&& 31).toUInt32).toInt32))])) _
    refine XS.bipush X0.here hx rfl (hb hby at_22) ?_
    show Steps p.tables e below (T0.setTop (mkF m 24 #[.val (.int i0), .val (.int i1), .val (.int i2), .val (.int i3), .val (.int i4), .val (.int i5), .val (.int v1), .val (.int v2), .unset, .unset, .unset, .unset, .unset, .unset, .unset, .unset, .unset, .unset, .unset, .unset, .unset, .unset, .unset, .unset, .unset, .unset, .unset, .unset, .unset, .unset, .unset, .unset, .unset, .unset, .unset, .unset] [(.int (7 : Int32)), (.int ((i0.toUInt32 >>> ((6 : Int32) &&& 31).toUInt32).toInt32))])) _
    refine XS.iand X0.here hx rfl (hb hby at_24) rfl ?_
    show Steps p.tables e below (T0.setTop (mkF m 25 #[.val (.int i0), .val (.int i1), .val (.int i2), .val (.int i3), .val (.int i4), .val (.int i5), .val (.int v1), .val (.int v2), .unset, .unset, .unset, .unset, .unset, .unset, .unset, .unset, .unset, .unset, .unset, .unset, .unset, .unset, .unset, .unset, .unset, .unset, .unset, .unset, .unset, .unset, .unset, .unset, .unset, .unset, .unset, .unset] [(.int (((i0.toUInt32 >>> ((6 : Int32) &&& 31).toUInt32).toInt32) &&& (7 : Int32)))])) _
    refine XS.iconst X0.here hx rfl (hb hby at_25) ?_
    show Steps p.tables e below (T0.setTop (mkF m 26 #[.val (.int i0), .val (.int i1), .val (.int i2), .val (.int i3), .val (.int i4), .val (.int i5), .val (.int v1), .val (.int v2), .unset, .unset, .unset, .unset, .unset, .unset, .unset, .unset, .unset, .unset, .unset, .unset, .unset, .unset, .unset, .unset, .unset, .unset, .unset, .unset, .unset, .unset, .unset, .unset, .unset, .unset, .unset, .unset] [(.int (1 : Int32)), (.int (((i0.toUInt32 >>> ((6 : Int32) &&& 31).toUInt32).toInt32) &&& (7 : Int32)))])) _
    refine XS.iadd X0.here hx rfl (hb hby at_26) rfl ?_
    show Steps p.tables e below (T0.setTop (mkF m 27 #[.val (.int i0), .val (.int i1), .val (.int i2), .val (.int i3), .val (.int i4), .val (.int i5), .val (.int v1), .val (.int v2), .unset, .unset, .unset, .unset, .unset, .unset, .unset, .unset, .unset, .unset, .unset, .unset, .unset, .unset, .unset, .unset, .unset, .unset, .unset, .unset, .unset, .unset, .unset, .unset, .unset, .unset, .unset, .unset] [(.int ((((i0.toUInt32 >>> ((6 : Int32) &&& 31).toUInt32).toInt32) &&& (7 : Int32)) + (1 : Int32)))])) _
    refine own_to (congrArg (fun z => T0.setTop (mkF m 27 #[.val (.int i0), .val (.int i1), .val (.int i2), .val (.int i3), .val (.int i4), .val (.int i5), .val (.int v1), .val (.int v2), .unset, .unset, .unset, .unset, .unset, .unset, .unset, .unset, .unset, .unset, .unset, .unset, .unset, .unset, .unset, .unset, .unset, .unset, .unset, .unset, .unset, .unset, .unset, .unset, .unset, .unset, .unset, .unset] [(.int z)])) hv3) ?_
    show Steps p.tables e below (T0.setTop (mkF m 27 #[.val (.int i0), .val (.int i1), .val (.int i2), .val (.int i3), .val (.int i4), .val (.int i5), .val (.int v1), .val (.int v2), .unset, .unset, .unset, .unset, .unset, .unset, .unset, .unset, .unset, .unset, .unset, .unset, .unset, .unset, .unset, .unset, .unset, .unset, .unset, .unset, .unset, .unset, .unset, .unset, .unset, .unset, .unset, .unset] [(.int v3)])) _
    refine XS.istore X0.here hx rfl (hb hby at_27) rfl (l' := #[.val (.int i0), .val (.int i1), .val (.int i2), .val (.int i3), .val (.int i4), .val (.int i5), .val (.int v1), .val (.int v2), .val (.int v3), .unset, .unset, .unset, .unset, .unset, .unset, .unset, .unset, .unset, .unset, .unset, .unset, .unset, .unset, .unset, .unset, .unset, .unset, .unset, .unset, .unset, .unset, .unset, .unset, .unset, .unset, .unset]) rfl ?_
    show Steps p.tables e below (T0.setTop (mkF m 29 #[.val (.int i0), .val (.int i1), .val (.int i2), .val (.int i3), .val (.int i4), .val (.int i5), .val (.int v1), .val (.int v2), .val (.int v3), .unset, .unset, .unset, .unset, .unset, .unset, .unset, .unset, .unset, .unset, .unset, .unset, .unset, .unset, .unset, .unset, .unset, .unset, .unset, .unset, .unset, .unset, .unset, .unset, .unset, .unset, .unset] [])) _
    refine XS.iloadN X0.here hx rfl (hb hby at_29) rfl ?_
    show Steps p.tables e below (T0.setTop (mkF m 30 #[.val (.int i0), .val (.int i1), .val (.int i2), .val (.int i3), .val (.int i4), .val (.int i5), .val (.int v1), .val (.int v2), .val (.int v3), .unset, .unset, .unset, .unset, .unset, .unset, .unset, .unset, .unset, .unset, .unset, .unset, .unset, .unset, .unset, .unset, .unset, .unset, .unset, .unset, .unset, .unset, .unset, .unset, .unset, .unset, .unset] [(.int i0)])) _
    refine XS.bipush X0.here hx rfl (hb hby at_30) ?_
    show Steps p.tables e below (T0.setTop (mkF m 32 #[.val (.int i0), .val (.int i1), .val (.int i2), .val (.int i3), .val (.int i4), .val (.int i5), .val (.int v1), .val (.int v2), .val (.int v3), .unset, .unset, .unset, .unset, .unset, .unset, .unset, .unset, .unset, .unset, .unset, .unset, .unset, .unset, .unset, .unset, .unset, .unset, .unset, .unset, .unset, .unset, .unset, .unset, .unset, .unset, .unset] [(.int (9 : Int32)), (.int i0)])) _
    refine XS.iushr X0.here hx rfl (hb hby at_32) rfl ?_
    show Steps p.tables e below (T0.setTop (mkF m 33 #[.val (.int i0), .val (.int i1), .val (.int i2), .val (.int i3), .val (.int i4), .val (.int i5), .val (.int v1), .val (.int v2), .val (.int v3), .unset, .unset, .unset, .unset, .unset, .unset, .unset, .unset, .unset, .unset, .unset, .unset, .unset, .unset, .unset, .unset, .unset, .unset, .unset, .unset, .unset, .unset, .unset, .unset, .unset, .unset, .unset] [(.int ((i0.toUInt32 >>> ((9 : Int32) &&& 31).toUInt32).toInt32))])) _
    refine XS.bipush X0.here hx rfl (hb hby at_33) ?_
    show Steps p.tables e below (T0.setTop (mkF m 35 #[.val (.int i0), .val (.int i1), .val (.int i2), .val (.int i3), .val (.int i4), .val (.int i5), .val (.int v1), .val (.int v2), .val (.int v3), .unset, .unset, .unset, .unset, .unset, .unset, .unset, .unset, .unset, .unset, .unset, .unset, .unset, .unset, .unset, .unset, .unset, .unset, .unset, .unset, .unset, .unset, .unset, .unset, .unset, .unset, .unset] [(.int (7 : Int32)), (.int ((i0.toUInt32 >>> ((9 : Int32) &&& 31).toUInt32).toInt32))])) _
    refine XS.iand X0.here hx rfl (hb hby at_35) rfl ?_
    show Steps p.tables e below (T0.setTop (mkF m 36 #[.val (.int i0), .val (.int i1), .val (.int i2), .val (.int i3), .val (.int i4), .val (.int i5), .val (.int v1), .val (.int v2), .val (.int v3), .unset, .unset, .unset, .unset, .unset, .unset, .unset, .unset, .unset, .unset, .unset, .unset, .unset, .unset, .unset, .unset, .unset, .unset, .unset, .unset, .unset, .unset, .unset, .unset, .unset, .unset, .unset] [(.int (((i0.toUInt32 >>> ((9 : Int32) &&& 31).toUInt32).toInt32) &&& (7 : Int32)))])) _
    refine XS.iconst X0.here hx rfl (hb hby at_36) ?_
    show Steps p.tables e below (T0.setTop (mkF m 37 #[.val (.int i0), .val (.int i1), .val (.int i2), .val (.int i3), .val (.int i4), .val (.int i5), .val (.int v1), .val (.int v2), .val (.int v3), .unset, .unset, .unset, .unset, .unset, .unset, .unset, .unset, .unset, .unset, .unset, .unset, .unset, .unset, .unset, .unset, .unset, .unset, .unset, .unset, .unset, .unset, .unset, .unset, .unset, .unset, .unset] [(.int (1 : Int32)), (.int (((i0.toUInt32 >>> ((9 : Int32) &&& 31).toUInt32).toInt32) &&& (7 : Int32)))])) _
    refine XS.iadd X0.here hx rfl (hb hby at_37) rfl ?_
    show Steps p.tables e below (T0.setTop (mkF m 38 #[.val (.int i0), .val (.int i1), .val (.int i2), .val (.int i3), .val (.int i4), .val (.int i5), .val (.int v1), .val (.int v2), .val (.int v3), .unset, .unset, .unset, .unset, .unset, .unset, .unset, .unset, .unset, .unset, .unset, .unset, .unset, .unset, .unset, .unset, .unset, .unset, .unset, .unset, .unset, .unset, .unset, .unset, .unset, .unset, .unset] [(.int ((((i0.toUInt32 >>> ((9 : Int32) &&& 31).toUInt32).toInt32) &&& (7 : Int32)) + (1 : Int32)))])) _
    refine own_to (congrArg (fun z => T0.setTop (mkF m 38 #[.val (.int i0), .val (.int i1), .val (.int i2), .val (.int i3), .val (.int i4), .val (.int i5), .val (.int v1), .val (.int v2), .val (.int v3), .unset, .unset, .unset, .unset, .unset, .unset, .unset, .unset, .unset, .unset, .unset, .unset, .unset, .unset, .unset, .unset, .unset, .unset, .unset, .unset, .unset, .unset, .unset, .unset, .unset, .unset, .unset] [(.int z)])) hv4) ?_
    show Steps p.tables e below (T0.setTop (mkF m 38 #[.val (.int i0), .val (.int i1), .val (.int i2), .val (.int i3), .val (.int i4), .val (.int i5), .val (.int v1), .val (.int v2), .val (.int v3), .unset, .unset, .unset, .unset, .unset, .unset, .unset, .unset, .unset, .unset, .unset, .unset, .unset, .unset, .unset, .unset, .unset, .unset, .unset, .unset, .unset, .unset, .unset, .unset, .unset, .unset, .unset] [(.int v4)])) _
    refine XS.istore X0.here hx rfl (hb hby at_38) rfl (l' := #[.val (.int i0), .val (.int i1), .val (.int i2), .val (.int i3), .val (.int i4), .val (.int i5), .val (.int v1), .val (.int v2), .val (.int v3), .val (.int v4), .unset, .unset, .unset, .unset, .unset, .unset, .unset, .unset, .unset, .unset, .unset, .unset, .unset, .unset, .unset, .unset, .unset, .unset, .unset, .unset, .unset, .unset, .unset, .unset, .unset, .unset]) rfl ?_
    show Steps p.tables e below (T0.setTop (mkF m 40 #[.val (.int i0), .val (.int i1), .val (.int i2), .val (.int i3), .val (.int i4), .val (.int i5), .val (.int v1), .val (.int v2), .val (.int v3), .val (.int v4), .unset, .unset, .unset, .unset, .unset, .unset, .unset, .unset, .unset, .unset, .unset, .unset, .unset, .unset, .unset, .unset, .unset, .unset, .unset, .unset, .unset, .unset, .unset, .unset, .unset, .unset] [])) _
    refine XS.iconst X0.here hx rfl (hb hby at_40) ?_
    show Steps p.tables e below (T0.setTop (mkF m 41 #[.val (.int i0), .val (.int i1), .val (.int i2), .val (.int i3), .val (.int i4), .val (.int i5), .val (.int v1), .val (.int v2), .val (.int v3), .val (.int v4), .unset, .unset, .unset, .unset, .unset, .unset, .unset, .unset, .unset, .unset, .unset, .unset, .unset, .unset, .unset, .unset, .unset, .unset, .unset, .unset, .unset, .unset, .unset, .unset, .unset, .unset] [(.int (2 : Int32))])) _
    refine XS.iload X0.here hx rfl (hb hby at_41) rfl ?_
    show Steps p.tables e below (T0.setTop (mkF m 43 #[.val (.int i0), .val (.int i1), .val (.int i2), .val (.int i3), .val (.int i4), .val (.int i5), .val (.int v1), .val (.int v2), .val (.int v3), .val (.int v4), .unset, .unset, .unset, .unset, .unset, .unset, .unset, .unset, .unset, .unset, .unset, .unset, .unset, .unset, .unset, .unset, .unset, .unset, .unset, .unset, .unset, .unset, .unset, .unset, .unset, .unset] [(.int i5), (.int (2 : Int32))])) _
    refine XS.sipush X0.here hx rfl (hb hby at_43) ?_
    show Steps p.tables e below (T0.setTop (mkF m 46 #[.val (.int i0), .val (.int i1), .val (.int i2), .val (.int i3), .val (.int i4), .val (.int i5), .val (.int v1), .val (.int v2), .val (.int v3), .val (.int v4), .unset, .unset, .unset, .unset, .unset, .unset, .unset, .unset, .unset, .unset, .unset, .unset, .unset, .unset, .unset, .unset, .unset, .unset, .unset, .unset, .unset, .unset, .unset, .unset, .unset, .unset] [(.int (255 : Int32)), (.int i5), (.int (2 : Int32))])) _
    refine XS.iand X0.here hx rfl (hb hby at_46) rfl ?_
    show Steps p.tables e below (T0.setTop (mkF m 47 #[.val (.int i0), .val (.int i1), .val (.int i2), .val (.int i3), .val (.int i4), .val (.int i5), .val (.int v1), .val (.int v2), .val (.int v3), .val (.int v4), .unset, .unset, .unset, .unset, .unset, .unset, .unset, .unset, .unset, .unset, .unset, .unset, .unset, .unset, .unset, .unset, .unset, .unset, .unset, .unset, .unset, .unset, .unset, .unset, .unset, .unset] [(.int (i5 &&& (255 : Int32))), (.int (2 : Int32))])) _
    refine XS.iconst X0.here hx rfl (hb hby at_47) ?_
    show Steps p.tables e below (T0.setTop (mkF m 48 #[.val (.int i0), .val (.int i1), .val (.int i2), .val (.int i3), .val (.int i4), .val (.int i5), .val (.int v1), .val (.int v2), .val (.int v3), .val (.int v4), .unset, .unset, .unset, .unset, .unset, .unset, .unset, .unset, .unset, .unset, .unset, .unset, .unset, .unset, .unset, .unset, .unset, .unset, .unset, .unset, .unset, .unset, .unset, .unset, .unset, .unset] [(.int (3 : Int32)), (.int (i5 &&& (255 : Int32))), (.int (2 : Int32))])) _
    refine iremM X0 hx rfl (hb hby at_48) rfl (by decide) ?_
    show Steps p.tables e below (T0.setTop (mkF m 49 #[.val (.int i0), .val (.int i1), .val (.int i2), .val (.int i3), .val (.int i4), .val (.int i5), .val (.int v1), .val (.int v2), .val (.int v3), .val (.int v4), .unset, .unset, .unset, .unset, .unset, .unset, .unset, .unset, .unset, .unset, .unset, .unset, .unset, .unset, .unset, .unset, .unset, .unset, .unset, .unset, .unset, .unset, .unset, .unset, .unset, .unset] [(.int ((i5 &&& (255 : Int32)) % (3 : Int32))), (.int (2 : Int32))])) _
    refine XS.iadd X0.here hx rfl (hb hby at_49) rfl ?_
    show Steps p.tables e below (T0.setTop (mkF m 50 #[.val (.int i0), .val (.int i1), .val (.int i2), .val (.int i3), .val (.int i4), .val (.int i5), .val (.int v1), .val (.int v2), .val (.int v3), .val (.int v4), .unset, .unset, .unset, .unset, .unset, .unset, .unset, .unset, .unset, .unset, .unset, .unset, .unset, .unset, .unset, .unset, .unset, .unset, .unset, .unset, .unset, .unset, .unset, .unset, .unset, .unset] [(.int ((2 : Int32) + ((i5 &&& (255 : Int32)) % (3 : Int32))))])) _
    refine own_to (congrArg (fun z => T0.setTop (mkF m 50 #[.val (.int i0), .val (.int i1), .val (.int i2), .val (.int i3), .val (.int i4), .val (.int i5), .val (.int v1), .val (.int v2), .val (.int v3), .val (.int v4), .unset, .unset, .unset, .unset, .unset, .unset, .unset, .unset, .unset, .unset, .unset, .unset, .unset, .unset, .unset, .unset, .unset, .unset, .unset, .unset, .unset, .unset, .unset, .unset, .unset, .unset] [(.int z)])) hv5) ?_
    show Steps p.tables e below (T0.setTop (mkF m 50 #[.val (.int i0), .val (.int i1), .val (.int i2), .val (.int i3), .val (.int i4), .val (.int i5), .val (.int v1), .val (.int v2), .val (.int v3), .val (.int v4), .unset, .unset, .unset, .unset, .unset, .unset, .unset, .unset, .unset, .unset, .unset, .unset, .unset, .unset, .unset, .unset, .unset, .unset, .unset, .unset, .unset, .unset, .unset, .unset, .unset, .unset] [(.int v5)])) _
    refine XS.istore X0.here hx rfl (hb hby at_50) rfl (l' := #[.val (.int i0), .val (.int i1), .val (.int i2), .val (.int i3), .val (.int i4), .val (.int i5), .val (.int v1), .val (.int v2), .val (.int v3), .val (.int v4), .val (.int v5), .unset, .unset, .unset, .unset, .unset, .unset, .unset, .unset, .unset, .unset, .unset, .unset, .unset, .unset, .unset, .unset, .unset, .unset, .unset, .unset, .unset, .unset, .unset, .unset, .unset]) rfl ?_
    show Steps p.tables e below (T0.setTop (mkF m 52 #[.val (.int i0), .val (.int i1), .val (.int i2), .val (.int i3), .val (.int i4), .val (.int i5), .val (.int v1), .val (.int v2), .val (.int v3), .val (.int v4), .val (.int v5), .unset, .unset, .unset, .unset, .unset, .unset, .unset, .unset, .unset, .unset, .unset, .unset, .unset, .unset, .unset, .unset, .unset, .unset, .unset, .unset, .unset, .unset, .unset, .unset, .unset] [])) _
    refine XS.iload X0.here hx rfl (hb hby at_52) rfl ?_
    show Steps p.tables e below (T0.setTop (mkF m 54 #[.val (.int i0), .val (.int i1), .val (.int i2), .val (.int i3), .val (.int i4), .val (.int i5), .val (.int v1), .val (.int v2), .val (.int v3), .val (.int v4), .val (.int v5), .unset, .unset, .unset, .unset, .unset, .unset, .unset, .unset, .unset, .unset, .unset, .unset, .unset, .unset, .unset, .unset, .unset, .unset, .unset, .unset, .unset, .unset, .unset, .unset, .unset] [(.int i5)])) _
    refine XS.bipush X0.here hx rfl (hb hby at_54) ?_
    show Steps p.tables e below (T0.setTop (mkF m 56 #[.val (.int i0), .val (.int i1), .val (.int i2), .val (.int i3), .val (.int i4), .val (.int i5), .val (.int v1), .val (.int v2), .val (.int v3), .val (.int v4), .val (.int v5), .unset, .unset, .unset, .unset, .unset, .unset, .unset, .unset, .unset, .unset, .unset, .unset, .unset, .unset, .unset, .unset, .unset, .unset, .unset, .unset, .unset, .unset, .unset, .unset, .unset] [(.int (8 : Int32)), (.int i5)])) _
    refine XS.iushr X0.here hx rfl (hb hby at_56) rfl ?_
    show Steps p.tables e below (T0.setTop (mkF m 57 #[.val (.int i0), .val (.int i1), .val (.int i2), .val (.int i3), .val (.int i4), .val (.int i5), .val (.int v1), .val (.int v2), .val (.int v3), .val (.int v4), .val (.int v5), .unset, .unset, .unset, .unset, .unset, .unset, .unset, .unset, .unset, .unset, .unset, .unset, .unset, .unset, .unset, .unset, .unset, .unset, .unset, .unset, .unset, .unset, .unset, .unset, .unset] [(.int ((i5.toUInt32 >>> ((8 : Int32) &&& 31).toUInt32).toInt32))])) _
    refine XS.iconst X0.here hx rfl (hb hby at_57) ?_
    show Steps p.tables e below (T0.setTop (mkF m 58 #[.val (.int i0), .val (.int i1), .val (.int i2), .val (.int i3), .val (.int i4), .val (.int i5), .val (.int v1), .val (.int v2), .val (.int v3), .val (.int v4), .val (.int v5), .unset, .unset, .unset, .unset, .unset, .unset, .unset, .unset, .unset, .unset, .unset, .unset, .unset, .unset, .unset, .unset, .unset, .unset, .unset, .unset, .unset, .unset, .unset, .unset, .unset] [(.int (3 : Int32)), (.int ((i5.toUInt32 >>> ((8 : Int32) &&& 31).toUInt32).toInt32))])) _
    refine XS.iand X0.here hx rfl (hb hby at_58) rfl ?_
    show Steps p.tables e below (T0.setTop (mkF m 59 #[.val (.int i0), .val (.int i1), .val (.int i2), .val (.int i3), .val (.int i4), .val (.int i5), .val (.int v1), .val (.int v2), .val (.int v3), .val (.int v4), .val (.int v5), .unset, .unset, .unset, .unset, .unset, .unset, .unset, .unset, .unset, .unset, .unset, .unset, .unset, .unset, .unset, .unset, .unset, .unset, .unset, .unset, .unset, .unset, .unset, .unset, .unset] [(.int (((i5.toUInt32 >>> ((8 : Int32) &&& 31).toUInt32).toInt32) &&& (3 : Int32)))])) _
    refine own_to (congrArg (fun z => T0.setTop (mkF m 59 #[.val (.int i0), .val (.int i1), .val (.int i2), .val (.int i3), .val (.int i4), .val (.int i5), .val (.int v1), .val (.int v2), .val (.int v3), .val (.int v4), .val (.int v5), .unset, .unset, .unset, .unset, .unset, .unset, .unset, .unset, .unset, .unset, .unset, .unset, .unset, .unset, .unset, .unset, .unset, .unset, .unset, .unset, .unset, .unset, .unset, .unset, .unset] [(.int z)])) hv6) ?_
    show Steps p.tables e below (T0.setTop (mkF m 59 #[.val (.int i0), .val (.int i1), .val (.int i2), .val (.int i3), .val (.int i4), .val (.int i5), .val (.int v1), .val (.int v2), .val (.int v3), .val (.int v4), .val (.int v5), .unset, .unset, .unset, .unset, .unset, .unset, .unset, .unset, .unset, .unset, .unset, .unset, .unset, .unset, .unset, .unset, .unset, .unset, .unset, .unset, .unset, .unset, .unset, .unset, .unset] [(.int v6)])) _
    refine XS.istore X0.here hx rfl (hb hby at_59) rfl (l' := #[.val (.int i0), .val (.int i1), .val (.int i2), .val (.int i3), .val (.int i4), .val (.int i5), .val (.int v1), .val (.int v2), .val (.int v3), .val (.int v4), .val (.int v5), .val (.int v6), .unset, .unset, .unset, .unset, .unset, .unset, .unset, .unset, .unset, .unset, .unset, .unset, .unset, .unset, .unset, .unset, .unset, .unset, .unset, .unset, .unset, .unset, .unset, .unset]) rfl ?_
    show Steps p.tables e below (T0.setTop (mkF m 61 #[.val (.int i0), .val (.int i1), .val (.int i2), .val (.int i3), .val (.int i4), .val (.int i5), .val (.int v1), .val (.int v2), .val (.int v3), .val (.int v4), .val (.int v5), .val (.int v6), .unset, .unset, .unset, .unset, .unset, .unset, .unset, .unset, .unset, .unset, .unset, .unset, .unset, .unset, .unset, .unset, .unset, .unset, .unset, .unset, .unset, .unset, .unset, .unset] [])) _
    refine XS.iloadN X0.here hx rfl (hb hby at_61) rfl ?_
    show Steps p.tables e below (T0.setTop (mkF m 62 #[.val (.int i0), .val (.int i1), .val (.int i2), .val (.int i3), .val (.int i4), .val (.int i5), .val (.int v1), .val (.int v2), .val (.int v3), .val (.int v4), .val (.int v5), .val (.int v6), .unset, .unset, .unset, .unset, .unset, .unset, .unset, .unset, .unset, .unset, .unset, .unset, .unset, .unset, .unset, .unset, .unset, .unset, .unset, .unset, .unset, .unset, .unset, .unset] [(.int i1)])) _
    refine X0.ldcInt hx hown (mvT hZ (hw _ (List.mem_of_getElem? (i := 0) rfl))) (g := (mkF m 62 #[.val (.int i0), .val (.int i1), .val (.int i2), .val (.int i3), .val (.int i4), .val (.int i5), .val (.int v1), .val (.int v2), .val (.int v3), .val (.int v4), .val (.int v5), .val (.int v6), .unset, .unset, .unset, .unset, .unset, .unset, .unset, .unset, .unset, .unset, .unset, .unset, .unset, .unset, .unset, .unset, .unset, .unset, .unset, .unset, .unset, .unset, .unset, .unset] [(.int i1)])) rfl (hb hby at_62) _ ?_
    show Steps p.tables e below (T0.setTop (mkF m 64 #[.val (.int i0), .val (.int i1), .val (.int i2), .val (.int i3), .val (.int i4), .val (.int i5), .val (.int v1), .val (.int v2), .val (.int v3), .val (.int v4), .val (.int v5), .val (.int v6), .unset, .unset, .unset, .unset, .unset, .unset, .unset, .unset, .unset, .unset, .unset, .unset, .unset, .unset, .unset, .unset, .unset, .unset, .unset, .unset, .unset, .unset, .unset, .unset] [(.int (2147483647 : Int32)), (.int i1)])) _
    refine XS.iand X0.here hx rfl (hb hby at_64) rfl ?_
    show Steps p.tables e below (T0.setTop (mkF m 65 #[.val (.int i0), .val (.int i1), .val (.int i2), .val (.int i3), .val (.int i4), .val (.int i5), .val (.int v1), .val (.int v2), .val (.int v3), .val (.int v4), .val (.int v5), .val (.int v6), .unset, .unset, .unset, .unset, .unset, .unset, .unset, .unset, .unset, .unset, .unset, .unset, .unset, .unset, .unset, .unset, .unset, .unset, .unset, .unset, .unset, .unset, .unset, .unset] [(.int (i1 &&& (2147483647 : Int32)))])) _
    refine XS.iload X0.here hx rfl (hb hby at_65) rfl ?_
    exact k
  by_cases hz7 : v1 = (0 : Int32)
  · rw [if_pos hz7] at hf; cases hf
  rw [if_neg hz7] at hf
  obtain ⟨v8, hv8, hf⟩ := own_letE hf
  refine Gl.on (B := T0.setTop (mkF m 76 #[.val (.int i0), .val (.int i1), .val (.int i2), .val (.int i3), .val (.int i4), .val (.int i5), .val (.int v1), .val (.int v2), .val (.int v3), .val (.int v4), .val (.int v5), .val (.int v6), .val (.int v8), .unset, .unset, .unset, .unset, .unset, .unset, .unset, .unset, .unset, .unset, .unset, .unset, .unset, .unset, .unset, .unset, .unset, .unset, .unset, .unset, .unset, .unset, .unset] [(.int v2), (.int (i2 &&& (2147483647 : Int32)))])) (fun t k => ?_) ?_
  · show Steps p.tables e below (T0.setTop (mkF m 67 #[.val (.int i0), .val (.int i1), .val (.int i2), .val (.int i3), .val (.int i4), .val (.int i5), .val (.int v1), .val (.int v2), .val (.int v3), .val (.int v4), .val (.int v5), .val (.int v6), .unset, .unset, .unset, .unset, .unset, .unset, .unset, .unset, .unset, .unset, .unset, .unset, .unset, .unset, .unset, .unset, .unset, .unset, .unset, .unset, .unset, .unset, .unset, .unset] [(.int v1), (.int (i1 &&& (2147483647 : Int32)))])) _
    refine iremM X0 hx rfl (hb hby at_67) rfl hz7 ?_
    show Steps p.tables e below (T0.setTop (mkF m 68 #[.val (.int i0), .val (.int i1), .val (.int i2), .val (.int i3), .val (.int i4), .val (.int i5), .val (.int v1), .val (.int v2), .val (.int v3), .val (.int v4), .val (.int v5), .val (.int v6), .unset, .unset, .unset, .unset, .unset, .unset, .unset, .unset, .unset, .unset, .unset, .unset, .unset, .unset, .unset, .unset, .unset, .unset, .unset, .unset, .unset, .unset, .unset, .unset] [(.int ((i1 &&& (2147483647 : Int32)) % v1))])) _
    refine own_to (congrArg (fun z => T0.setTop (mkF m 68 #[.val (.int i0), .val (.int i1), .val (.int i2), .val (.int i3), .val (.int i4), .val (.int i5), .val (.int v1), .val (.int v2), .val (.int v3), .val (.int v4), .val (.int v5), .val (.int v6), .unset, .unset, .unset, .unset, .unset, .unset, .unset, .unset, .unset, .unset, .unset, .unset, .unset, .unset, .unset, .unset, .unset, .unset, .unset, .unset, .unset, .unset, .unset, .unset] [(.int z)])) hv8) ?_
    show Steps p.tables e below (T0.setTop (mkF m 68 #[.val (.int i0), .val (.int i1), .val (.int i2), .val (.int i3), .val (.int i4), .val (.int i5), .val (.int v1), .val (.int v2), .val (.int v3), .val (.int v4), .val (.int v5), .val (.int v6), .unset, .unset, .unset, .unset, .unset, .unset, .unset, .unset, .unset, .unset, .unset, .unset, .unset, .unset, .unset, .unset, .unset, .unset, .unset, .unset, .unset, .unset, .unset, .unset] [(.int v8)])) _
    refine XS.istore X0.here hx rfl (hb hby at_68) rfl (l' := #[.val (.int i0), .val (.int i1), .val (.int i2), .val (.int i3), .val (.int i4), .val (.int i5), .val (.int v1), .val (.int v2), .val (.int v3), .val (.int v4), .val (.int v5), .val (.int v6), .val (.int v8), .unset, .unset, .unset, .unset, .unset, .unset, .unset, .unset, .unset, .unset, .unset, .unset, .unset, .unset, .unset, .unset, .unset, .unset, .unset, .unset, .unset, .unset, .unset]) rfl ?_
    show Steps p.tables e below (T0.setTop (mkF m 70 #[.val (.int i0), .val (.int i1), .val (.int i2), .val (.int i3), .val (.int i4), .val (.int i5), .val (.int v1), .val (.int v2), .val (.int v3), .val (.int v4), .val (.int v5), .val (.int v6), .val (.int v8), .unset, .unset, .unset, .unset, .unset, .unset, .unset, .unset, .unset, .unset, .unset, .unset, .unset, .unset, .unset, .unset, .unset, .unset, .unset, .unset, .unset, .unset, .unset] [])) _
    refine XS.iloadN X0.here hx rfl (hb hby at_70) rfl ?_
    show Steps p.tables e below (T0.setTop (mkF m 71 #[.val (.int i0), .val (.int i1), .val (.int i2), .val (.int i3), .val (.int i4), .val (.int i5), .val (.int v1), .val (.int v2), .val (.int v3), .val (.int v4), .val (.int v5), .val (.int v6), .val (.int v8), .unset, .unset, .unset, .unset, .unset, .unset, .unset, .unset, .unset, .unset, .unset, .unset, .unset, .unset, .unset, .unset, .unset, .unset, .unset, .unset, .unset, .unset, .unset] [(.int i2)])) _
    refine X0.ldcInt hx hown (mvT hZ (hw _ (List.mem_of_getElem? (i := 0) rfl))) (g := (mkF m 71 #[.val (.int i0), .val (.int i1), .val (.int i2), .val (.int i3), .val (.int i4), .val (.int i5), .val (.int v1), .val (.int v2), .val (.int v3), .val (.int v4), .val (.int v5), .val (.int v6), .val (.int v8), .unset, .unset, .unset, .unset, .unset, .unset, .unset, .unset, .unset, .unset, .unset, .unset, .unset, .unset, .unset, .unset, .unset, .unset, .unset, .unset, .unset, .unset, .unset] [(.int i2)])) rfl (hb hby at_71) _ ?_
    show Steps p.tables e below (T0.setTop (mkF m 73 #[.val (.int i0), .val (.int i1), .val (.int i2), .val (.int i3), .val (.int i4), .val (.int i5), .val (.int v1), .val (.int v2), .val (.int v3), .val (.int v4), .val (.int v5), .val (.int v6), .val (.int v8), .unset, .unset, .unset, .unset, .unset, .unset, .unset, .unset, .unset, .unset, .unset, .unset, .unset, .unset, .unset, .unset, .unset, .unset, .unset, .unset, .unset, .unset, .unset] [(.int (2147483647 : Int32)), (.int i2)])) _
    refine XS.iand X0.here hx rfl (hb hby at_73) rfl ?_
    show Steps p.tables e below (T0.setTop (mkF m 74 #[.val (.int i0), .val (.int i1), .val (.int i2), .val (.int i3), .val (.int i4), .val (.int i5), .val (.int v1), .val (.int v2), .val (.int v3), .val (.int v4), .val (.int v5), .val (.int v6), .val (.int v8), .unset, .unset, .unset, .unset, .unset, .unset, .unset, .unset, .unset, .unset, .unset, .unset, .unset, .unset, .unset, .unset, .unset, .unset, .unset, .unset, .unset, .unset, .unset] [(.int (i2 &&& (2147483647 : Int32)))])) _
    refine XS.iload X0.here hx rfl (hb hby at_74) rfl ?_
    exact k
  by_cases hz9 : v2 = (0 : Int32)
  · rw [if_pos hz9] at hf; cases hf
  rw [if_neg hz9] at hf
  obtain ⟨v10, hv10, hf⟩ := own_letE hf
  refine Gl.on (B := T0.setTop (mkF m 85 #[.val (.int i0), .val (.int i1), .val (.int i2), .val (.int i3), .val (.int i4), .val (.int i5), .val (.int v1), .val (.int v2), .val (.int v3), .val (.int v4), .val (.int v5), .val (.int v6), .val (.int v8), .val (.int v10), .unset, .unset, .unset, .unset, .unset, .unset, .unset, .unset, .unset, .unset, .unset, .unset, .unset, .unset, .unset, .unset, .unset, .unset, .unset, .unset, .unset, .unset] [(.int v3), (.int (i3 &&& (2147483647 : Int32)))])) (fun t k => ?_) ?_
  · show Steps p.tables e below (T0.setTop (mkF m 76 #[.val (.int i0), .val (.int i1), .val (.int i2), .val (.int i3), .val (.int i4), .val (.int i5), .val (.int v1), .val (.int v2), .val (.int v3), .val (.int v4), .val (.int v5), .val (.int v6), .val (.int v8), .unset, .unset, .unset, .unset, .unset, .unset, .unset, .unset, .unset, .unset, .unset, .unset, .unset, .unset, .unset, .unset, .unset, .unset, .unset, .unset, .unset, .unset, .unset] [(.int v2), (.int (i2 &&& (2147483647 : Int32)))])) _
    refine iremM X0 hx rfl (hb hby at_76) rfl hz9 ?_
    show Steps p.tables e below (T0.setTop (mkF m 77 #[.val (.int i0), .val (.int i1), .val (.int i2), .val (.int i3), .val (.int i4), .val (.int i5), .val (.int v1), .val (.int v2), .val (.int v3), .val (.int v4), .val (.int v5), .val (.int v6), .val (.int v8), .unset, .unset, .unset, .unset, .unset, .unset, .unset, .unset, .unset, .unset, .unset, .unset, .unset, .unset, .unset, .unset, .unset, .unset, .unset, .unset, .unset, .unset, .unset] [(.int ((i2 &&& (2147483647 : Int32)) % v2))])) _
    refine own_to (congrArg (fun z => T0.setTop (mkF m 77 #[.val (.int i0), .val (.int i1), .val (.int i2), .val (.int i3), .val (.int i4), .val (.int i5), .val (.int v1), .val (.int v2), .val (.int v3), .val (.int v4), .val (.int v5), .val (.int v6), .val (.int v8), .unset, .unset, .unset, .unset, .unset, .unset, .unset, .unset, .unset, .unset, .unset, .unset, .unset, .unset, .unset, .unset, .unset, .unset, .unset, .unset, .unset, .unset, .unset] [(.int z)])) hv10) ?_
    show Steps p.tables e below (T0.setTop (mkF m 77 #[.val (.int i0), .val (.int i1), .val (.int i2), .val (.int i3), .val (.int i4), .val (.int i5), .val (.int v1), .val (.int v2), .val (.int v3), .val (.int v4), .val (.int v5), .val (.int v6), .val (.int v8), .unset, .unset, .unset, .unset, .unset, .unset, .unset, .unset, .unset, .unset, .unset, .unset, .unset, .unset, .unset, .unset, .unset, .unset, .unset, .unset, .unset, .unset, .unset] [(.int v10)])) _
    refine XS.istore X0.here hx rfl (hb hby at_77) rfl (l' := #[.val (.int i0), .val (.int i1), .val (.int i2), .val (.int i3), .val (.int i4), .val (.int i5), .val (.int v1), .val (.int v2), .val (.int v3), .val (.int v4), .val (.int v5), .val (.int v6), .val (.int v8), .val (.int v10), .unset, .unset, .unset, .unset, .unset, .unset, .unset, .unset, .unset, .unset, .unset, .unset, .unset, .unset, .unset, .unset, .unset, .unset, .unset, .unset, .unset, .unset]) rfl ?_
    show Steps p.tables e below (T0.setTop (mkF m 79 #[.val (.int i0), .val (.int i1), .val (.int i2), .val (.int i3), .val (.int i4), .val (.int i5), .val (.int v1), .val (.int v2), .val (.int v3), .val (.int v4), .val (.int v5), .val (.int v6), .val (.int v8), .val (.int v10), .unset, .unset, .unset, .unset, .unset, .unset, .unset, .unset, .unset, .unset, .unset, .unset, .unset, .unset, .unset, .unset, .unset, .unset, .unset, .unset, .unset, .unset] [])) _
    refine XS.iloadN X0.here hx rfl (hb hby at_79) rfl ?_
    show Steps p.tables e below (T0.setTop (mkF m 80 #[.val (.int i0), .val (.int i1), .val (.int i2), .val (.int i3), .val (.int i4), .val (.int i5), .val (.int v1), .val (.int v2), .val (.int v3), .val (.int v4), .val (.int v5), .val (.int v6), .val (.int v8), .val (.int v10), .unset, .unset, .unset, .unset, .unset, .unset, .unset, .unset, .unset, .unset, .unset, .unset, .unset, .unset, .unset, .unset, .unset, .unset, .unset, .unset, .unset, .unset] [(.int i3)])) _
    refine X0.ldcInt hx hown (mvT hZ (hw _ (List.mem_of_getElem? (i := 0) rfl))) (g := (mkF m 80 #[.val (.int i0), .val (.int i1), .val (.int i2), .val (.int i3), .val (.int i4), .val (.int i5), .val (.int v1), .val (.int v2), .val (.int v3), .val (.int v4), .val (.int v5), .val (.int v6), .val (.int v8), .val (.int v10), .unset, .unset, .unset, .unset, .unset, .unset, .unset, .unset, .unset, .unset, .unset, .unset, .unset, .unset, .unset, .unset, .unset, .unset, .unset, .unset, .unset, .unset] [(.int i3)])) rfl (hb hby at_80) _ ?_
    show Steps p.tables e below (T0.setTop (mkF m 82 #[.val (.int i0), .val (.int i1), .val (.int i2), .val (.int i3), .val (.int i4), .val (.int i5), .val (.int v1), .val (.int v2), .val (.int v3), .val (.int v4), .val (.int v5), .val (.int v6), .val (.int v8), .val (.int v10), .unset, .unset, .unset, .unset, .unset, .unset, .unset, .unset, .unset, .unset, .unset, .unset, .unset, .unset, .unset, .unset, .unset, .unset, .unset, .unset, .unset, .unset] [(.int (2147483647 : Int32)), (.int i3)])) _
    refine XS.iand X0.here hx rfl (hb hby at_82) rfl ?_
    show Steps p.tables e below (T0.setTop (mkF m 83 #[.val (.int i0), .val (.int i1), .val (.int i2), .val (.int i3), .val (.int i4), .val (.int i5), .val (.int v1), .val (.int v2), .val (.int v3), .val (.int v4), .val (.int v5), .val (.int v6), .val (.int v8), .val (.int v10), .unset, .unset, .unset, .unset, .unset, .unset, .unset, .unset, .unset, .unset, .unset, .unset, .unset, .unset, .unset, .unset, .unset, .unset, .unset, .unset, .unset, .unset] [(.int (i3 &&& (2147483647 : Int32)))])) _
    refine XS.iload X0.here hx rfl (hb hby at_83) rfl ?_
    exact k
  by_cases hz11 : v3 = (0 : Int32)
  · rw [if_pos hz11] at hf; cases hf
  rw [if_neg hz11] at hf
  obtain ⟨v12, hv12, hf⟩ := own_letE hf
  refine Gl.on (B := T0.setTop (mkF m 95 #[.val (.int i0), .val (.int i1), .val (.int i2), .val (.int i3), .val (.int i4), .val (.int i5), .val (.int v1), .val (.int v2), .val (.int v3), .val (.int v4), .val (.int v5), .val (.int v6), .val (.int v8), .val (.int v10), .val (.int v12), .unset, .unset, .unset, .unset, .unset, .unset, .unset, .unset, .unset, .unset, .unset, .unset, .unset, .unset, .unset, .unset, .unset, .unset, .unset, .unset, .unset] [(.int v4), (.int (i4 &&& (2147483647 : Int32)))])) (fun t k => ?_) ?_
  · show Steps p.tables e below (T0.setTop (mkF m 85 #[.val (.int i0), .val (.int i1), .val (.int i2), .val (.int i3), .val (.int i4), .val (.int i5), .val (.int v1), .val (.int v2), .val (.int v3), .val (.int v4), .val (.int v5), .val (.int v6), .val (.int v8), .val (.int v10), .unset, .unset, .unset, .unset, .unset, .unset, .unset, .unset, .unset, .unset, .unset, .unset, .unset, .unset, .unset, .unset, .unset, .unset, .unset, .unset, .unset, .unset] [(.int v3), (.int (i3 &&& (2147483647 : Int32)))])) _
    refine iremM X0 hx rfl (hb hby at_85) rfl hz11 ?_
    show Steps p.tables e below (T0.setTop (mkF m 86 #[.val (.int i0), .val (.int i1), .val (.int i2), .val (.int i3), .val (.int i4), .val (.int i5), .val (.int v1), .val (.int v2), .val (.int v3), .val (.int v4), .val (.int v5), .val (.int v6), .val (.int v8), .val (.int v10), .unset, .unset, .unset, .unset, .unset, .unset, .unset, .unset, .unset, .unset, .unset, .unset, .unset, .unset, .unset, .unset, .unset, .unset, .unset, .unset, .unset, .unset] [(.int ((i3 &&& (2147483647 : Int32)) % v3))])) _
    refine own_to (congrArg (fun z => T0.setTop (mkF m 86 #[.val (.int i0), .val (.int i1), .val (.int i2), .val (.int i3), .val (.int i4), .val (.int i5), .val (.int v1), .val (.int v2), .val (.int v3), .val (.int v4), .val (.int v5), .val (.int v6), .val (.int v8), .val (.int v10), .unset, .unset, .unset, .unset, .unset, .unset, .unset, .unset, .unset, .unset, .unset, .unset, .unset, .unset, .unset, .unset, .unset, .unset, .unset, .unset, .unset, .unset] [(.int z)])) hv12) ?_
    show Steps p.tables e below (T0.setTop (mkF m 86 #[.val (.int i0), .val (.int i1), .val (.int i2), .val (.int i3), .val (.int i4), .val (.int i5), .val (.int v1), .val (.int v2), .val (.int v3), .val (.int v4), .val (.int v5), .val (.int v6), .val (.int v8), .val (.int v10), .unset, .unset, .unset, .unset, .unset, .unset, .unset, .unset, .unset, .unset, .unset, .unset, .unset, .unset, .unset, .unset, .unset, .unset, .unset, .unset, .unset, .unset] [(.int v12)])) _
    refine XS.istore X0.here hx rfl (hb hby at_86) rfl (l' := #[.val (.int i0), .val (.int i1), .val (.int i2), .val (.int i3), .val (.int i4), .val (.int i5), .val (.int v1), .val (.int v2), .val (.int v3), .val (.int v4), .val (.int v5), .val (.int v6), .val (.int v8), .val (.int v10), .val (.int v12), .unset, .unset, .unset, .unset, .unset, .unset, .unset, .unset, .unset, .unset, .unset, .unset, .unset, .unset, .unset, .unset, .unset, .unset, .unset, .unset, .unset]) rfl ?_
    show Steps p.tables e below (T0.setTop (mkF m 88 #[.val (.int i0), .val (.int i1), .val (.int i2), .val (.int i3), .val (.int i4), .val (.int i5), .val (.int v1), .val (.int v2), .val (.int v3), .val (.int v4), .val (.int v5), .val (.int v6), .val (.int v8), .val (.int v10), .val (.int v12), .unset, .unset, .unset, .unset, .unset, .unset, .unset, .unset, .unset, .unset, .unset, .unset, .unset, .unset, .unset, .unset, .unset, .unset, .unset, .unset, .unset] [])) _
    refine XS.iload X0.here hx rfl (hb hby at_88) rfl ?_
    show Steps p.tables e below (T0.setTop (mkF m 90 #[.val (.int i0), .val (.int i1), .val (.int i2), .val (.int i3), .val (.int i4), .val (.int i5), .val (.int v1), .val (.int v2), .val (.int v3), .val (.int v4), .val (.int v5), .val (.int v6), .val (.int v8), .val (.int v10), .val (.int v12), .unset, .unset, .unset, .unset, .unset, .unset, .unset, .unset, .unset, .unset, .unset, .unset, .unset, .unset, .unset, .unset, .unset, .unset, .unset, .unset, .unset] [(.int i4)])) _
    refine X0.ldcInt hx hown (mvT hZ (hw _ (List.mem_of_getElem? (i := 0) rfl))) (g := (mkF m 90 #[.val (.int i0), .val (.int i1), .val (.int i2), .val (.int i3), .val (.int i4), .val (.int i5), .val (.int v1), .val (.int v2), .val (.int v3), .val (.int v4), .val (.int v5), .val (.int v6), .val (.int v8), .val (.int v10), .val (.int v12), .unset, .unset, .unset, .unset, .unset, .unset, .unset, .unset, .unset, .unset, .unset, .unset, .unset, .unset, .unset, .unset, .unset, .unset, .unset, .unset, .unset] [(.int i4)])) rfl (hb hby at_90) _ ?_
    show Steps p.tables e below (T0.setTop (mkF m 92 #[.val (.int i0), .val (.int i1), .val (.int i2), .val (.int i3), .val (.int i4), .val (.int i5), .val (.int v1), .val (.int v2), .val (.int v3), .val (.int v4), .val (.int v5), .val (.int v6), .val (.int v8), .val (.int v10), .val (.int v12), .unset, .unset, .unset, .unset, .unset, .unset, .unset, .unset, .unset, .unset, .unset, .unset, .unset, .unset, .unset, .unset, .unset, .unset, .unset, .unset, .unset] [(.int (2147483647 : Int32)), (.int i4)])) _
    refine XS.iand X0.here hx rfl (hb hby at_92) rfl ?_
    show Steps p.tables e below (T0.setTop (mkF m 93 #[.val (.int i0), .val (.int i1), .val (.int i2), .val (.int i3), .val (.int i4), .val (.int i5), .val (.int v1), .val (.int v2), .val (.int v3), .val (.int v4), .val (.int v5), .val (.int v6), .val (.int v8), .val (.int v10), .val (.int v12), .unset, .unset, .unset, .unset, .unset, .unset, .unset, .unset, .unset, .unset, .unset, .unset, .unset, .unset, .unset, .unset, .unset, .unset, .unset, .unset, .unset] [(.int (i4 &&& (2147483647 : Int32)))])) _
    refine XS.iload X0.here hx rfl (hb hby at_93) rfl ?_
    exact k
  by_cases hz13 : v4 = (0 : Int32)
  · rw [if_pos hz13] at hf; cases hf
  rw [if_neg hz13] at hf
  obtain ⟨v14, hv14, hf⟩ := own_letE hf
  obtain ⟨a15, ha15, hf⟩ := own_letE hf
  obtain ⟨D15, hD15, hf⟩ := own_bind hf
  obtain ⟨T15, h15, X15, e15, O15, st15⟩ := newAW X0 hx hZ (aty := .int) (hw _ (List.mem_of_getElem? (i := 1) rfl)) e0 O0 rfl rfl hD15 (g := (mkF m 100 #[.val (.int i0), .val (.int i1), .val (.int i2), .val (.int i3), .val (.int i4), .val (.int i5), .val (.int v1), .val (.int v2), .val (.int v3), .val (.int v4), .val (.int v5), .val (.int v6), .val (.int v8), .val (.int v10), .val (.int v12), .val (.int v14), .unset, .unset, .unset, .unset, .unset, .unset, .unset, .unset, .unset, .unset, .unset, .unset, .unset, .unset, .unset, .unset, .unset, .unset, .unset, .unset] [(.int v5)])) rfl (hb hby at_100) rfl (by decide) (by show _ + 1 ≤ 24; omega) (by show _ + 8 ≤ 192; omega)
  rw [ha15] at st15
  obtain ⟨D16, hq16, hf⟩ := own_bind hf
  obtain ⟨T16, h16, L16, X16, e16, O16, N16, st16⟩ := stIW X15 hx hZ e15 O15 N0 hq16 rfl (g := (mkF m 109 #[.val (.int i0), .val (.int i1), .val (.int i2), .val (.int i3), .val (.int i4), .val (.int i5), .val (.int v1), .val (.int v2), .val (.int v3), .val (.int v4), .val (.int v5), .val (.int v6), .val (.int v8), .val (.int v10), .val (.int v12), .val (.int v14), .val (.ref (n0 + a15)), .unset, .unset, .unset, .unset, .unset, .unset, .unset, .unset, .unset, .unset, .unset, .unset, .unset, .unset, .unset, .unset, .unset, .unset, .unset] [(.int v1), (.int (0 : Int32)), (.ref (n0 + a15))])) rfl rfl (hb hby at_109)
  obtain ⟨D17, hq17, hf⟩ := own_bind hf
  obtain ⟨T17, h17, L17, X17, e17, O17, N17, st17⟩ := stIW X16 hx hZ e16 O16 N16 hq17 rfl (g := (mkF m 115 #[.val (.int i0), .val (.int i1), .val (.int i2), .val (.int i3), .val (.int i4), .val (.int i5), .val (.int v1), .val (.int v2), .val (.int v3), .val (.int v4), .val (.int v5), .val (.int v6), .val (.int v8), .val (.int v10), .val (.int v12), .val (.int v14), .val (.ref (n0 + a15)), .unset, .unset, .unset, .unset, .unset, .unset, .unset, .unset, .unset, .unset, .unset, .unset, .unset, .unset, .unset, .unset, .unset, .unset, .unset] [(.int v2), (.int (1 : Int32)), (.ref (n0 + a15))])) rfl rfl (hb hby at_115)
  refine Gl.on (B := T17.setTop (mkF m 119 #[.val (.int i0), .val (.int i1), .val (.int i2), .val (.int i3), .val (.int i4), .val (.int i5), .val (.int v1), .val (.int v2), .val (.int v3), .val (.int v4), .val (.int v5), .val (.int v6), .val (.int v8), .val (.int v10), .val (.int v12), .val (.int v14), .val (.ref (n0 + a15)), .unset, .unset, .unset, .unset, .unset, .unset, .unset, .unset, .unset, .unset, .unset, .unset, .unset, .unset, .unset, .unset, .unset, .unset, .unset] [(.int (3 : Int32)), (.int v5)])) (fun t k => ?_) ?_
  · show Steps p.tables e below (T0.setTop (mkF m 95 #[.val (.int i0), .val (.int i1), .val (.int i2), .val (.int i3), .val (.int i4), .val (.int i5), .val (.int v1), .val (.int v2), .val (.int v3), .val (.int v4), .val (.int v5), .val (.int v6), .val (.int v8), .val (.int v10), .val (.int v12), .unset, .unset, .unset, .unset, .unset, .unset, .unset, .unset, .unset, .unset, .unset, .unset, .unset, .unset, .unset, .unset, .unset, .unset, .unset, .unset, .unset] [(.int v4), (.int (i4 &&& (2147483647 : Int32)))])) _
    refine iremM X0 hx rfl (hb hby at_95) rfl hz13 ?_
    show Steps p.tables e below (T0.setTop (mkF m 96 #[.val (.int i0), .val (.int i1), .val (.int i2), .val (.int i3), .val (.int i4), .val (.int i5), .val (.int v1), .val (.int v2), .val (.int v3), .val (.int v4), .val (.int v5), .val (.int v6), .val (.int v8), .val (.int v10), .val (.int v12), .unset, .unset, .unset, .unset, .unset, .unset, .unset, .unset, .unset, .unset, .unset, .unset, .unset, .unset, .unset, .unset, .unset, .unset, .unset, .unset, .unset] [(.int ((i4 &&& (2147483647 : Int32)) % v4))])) _
    refine own_to (congrArg (fun z => T0.setTop (mkF m 96 #[.val (.int i0), .val (.int i1), .val (.int i2), .val (.int i3), .val (.int i4), .val (.int i5), .val (.int v1), .val (.int v2), .val (.int v3), .val (.int v4), .val (.int v5), .val (.int v6), .val (.int v8), .val (.int v10), .val (.int v12), .unset, .unset, .unset, .unset, .unset, .unset, .unset, .unset, .unset, .unset, .unset, .unset, .unset, .unset, .unset, .unset, .unset, .unset, .unset, .unset, .unset] [(.int z)])) hv14) ?_
    show Steps p.tables e below (T0.setTop (mkF m 96 #[.val (.int i0), .val (.int i1), .val (.int i2), .val (.int i3), .val (.int i4), .val (.int i5), .val (.int v1), .val (.int v2), .val (.int v3), .val (.int v4), .val (.int v5), .val (.int v6), .val (.int v8), .val (.int v10), .val (.int v12), .unset, .unset, .unset, .unset, .unset, .unset, .unset, .unset, .unset, .unset, .unset, .unset, .unset, .unset, .unset, .unset, .unset, .unset, .unset, .unset, .unset] [(.int v14)])) _
    refine XS.istore X0.here hx rfl (hb hby at_96) rfl (l' := #[.val (.int i0), .val (.int i1), .val (.int i2), .val (.int i3), .val (.int i4), .val (.int i5), .val (.int v1), .val (.int v2), .val (.int v3), .val (.int v4), .val (.int v5), .val (.int v6), .val (.int v8), .val (.int v10), .val (.int v12), .val (.int v14), .unset, .unset, .unset, .unset, .unset, .unset, .unset, .unset, .unset, .unset, .unset, .unset, .unset, .unset, .unset, .unset, .unset, .unset, .unset, .unset]) rfl ?_
    show Steps p.tables e below (T0.setTop (mkF m 98 #[.val (.int i0), .val (.int i1), .val (.int i2), .val (.int i3), .val (.int i4), .val (.int i5), .val (.int v1), .val (.int v2), .val (.int v3), .val (.int v4), .val (.int v5), .val (.int v6), .val (.int v8), .val (.int v10), .val (.int v12), .val (.int v14), .unset, .unset, .unset, .unset, .unset, .unset, .unset, .unset, .unset, .unset, .unset, .unset, .unset, .unset, .unset, .unset, .unset, .unset, .unset, .unset] [])) _
    refine XS.iload X0.here hx rfl (hb hby at_98) rfl ?_
    show Steps p.tables e below (T0.setTop (mkF m 100 #[.val (.int i0), .val (.int i1), .val (.int i2), .val (.int i3), .val (.int i4), .val (.int i5), .val (.int v1), .val (.int v2), .val (.int v3), .val (.int v4), .val (.int v5), .val (.int v6), .val (.int v8), .val (.int v10), .val (.int v12), .val (.int v14), .unset, .unset, .unset, .unset, .unset, .unset, .unset, .unset, .unset, .unset, .unset, .unset, .unset, .unset, .unset, .unset, .unset, .unset, .unset, .unset] [(.int v5)])) _
    refine st15 _ ?_
    show Steps p.tables e below (T15.setTop (mkF m 102 #[.val (.int i0), .val (.int i1), .val (.int i2), .val (.int i3), .val (.int i4), .val (.int i5), .val (.int v1), .val (.int v2), .val (.int v3), .val (.int v4), .val (.int v5), .val (.int v6), .val (.int v8), .val (.int v10), .val (.int v12), .val (.int v14), .unset, .unset, .unset, .unset, .unset, .unset, .unset, .unset, .unset, .unset, .unset, .unset, .unset, .unset, .unset, .unset, .unset, .unset, .unset, .unset] [(.ref (n0 + a15))])) _
    refine XS.astore X15.here hx rfl (hb hby at_102) rfl rfl (l' := #[.val (.int i0), .val (.int i1), .val (.int i2), .val (.int i3), .val (.int i4), .val (.int i5), .val (.int v1), .val (.int v2), .val (.int v3), .val (.int v4), .val (.int v5), .val (.int v6), .val (.int v8), .val (.int v10), .val (.int v12), .val (.int v14), .val (.ref (n0 + a15)), .unset, .unset, .unset, .unset, .unset, .unset, .unset, .unset, .unset, .unset, .unset, .unset, .unset, .unset, .unset, .unset, .unset, .unset, .unset]) rfl ?_
    show Steps p.tables e below (T15.setTop (mkF m 104 #[.val (.int i0), .val (.int i1), .val (.int i2), .val (.int i3), .val (.int i4), .val (.int i5), .val (.int v1), .val (.int v2), .val (.int v3), .val (.int v4), .val (.int v5), .val (.int v6), .val (.int v8), .val (.int v10), .val (.int v12), .val (.int v14), .val (.ref (n0 + a15)), .unset, .unset, .unset, .unset, .unset, .unset, .unset, .unset, .unset, .unset, .unset, .unset, .unset, .unset, .unset, .unset, .unset, .unset, .unset] [])) _
    refine XS.aload X15.here hx rfl (hb hby at_104) rfl rfl ?_
    show Steps p.tables e below (T15.setTop (mkF m 106 #[.val (.int i0), .val (.int i1), .val (.int i2), .val (.int i3), .val (.int i4), .val (.int i5), .val (.int v1), .val (.int v2), .val (.int v3), .val (.int v4), .val (.int v5), .val (.int v6), .val (.int v8), .val (.int v10), .val (.int v12), .val (.int v14), .val (.ref (n0 + a15)), .unset, .unset, .unset, .unset, .unset, .unset, .unset, .unset, .unset, .unset, .unset, .unset, .unset, .unset, .unset, .unset, .unset, .unset, .unset] [(.ref (n0 + a15))])) _
    refine XS.iconst X15.here hx rfl (hb hby at_106) ?_
    show Steps p.tables e below (T15.setTop (mkF m 107 #[.val (.int i0), .val (.int i1), .val (.int i2), .val (.int i3), .val (.int i4), .val (.int i5), .val (.int v1), .val (.int v2), .val (.int v3), .val (.int v4), .val (.int v5), .val (.int v6), .val (.int v8), .val (.int v10), .val (.int v12), .val (.int v14), .val (.ref (n0 + a15)), .unset, .unset, .unset, .unset, .unset, .unset, .unset, .unset, .unset, .unset, .unset, .unset, .unset, .unset, .unset, .unset, .unset, .unset, .unset] [(.int (0 : Int32)), (.ref (n0 + a15))])) _
    refine XS.iload X15.here hx rfl (hb hby at_107) rfl ?_
    show Steps p.tables e below (T15.setTop (mkF m 109 #[.val (.int i0), .val (.int i1), .val (.int i2), .val (.int i3), .val (.int i4), .val (.int i5), .val (.int v1), .val (.int v2), .val (.int v3), .val (.int v4), .val (.int v5), .val (.int v6), .val (.int v8), .val (.int v10), .val (.int v12), .val (.int v14), .val (.ref (n0 + a15)), .unset, .unset, .unset, .unset, .unset, .unset, .unset, .unset, .unset, .unset, .unset, .unset, .unset, .unset, .unset, .unset, .unset, .unset, .unset] [(.int v1), (.int (0 : Int32)), (.ref (n0 + a15))])) _
    refine st16 _ ?_
    show Steps p.tables e below (T16.setTop (mkF m 110 #[.val (.int i0), .val (.int i1), .val (.int i2), .val (.int i3), .val (.int i4), .val (.int i5), .val (.int v1), .val (.int v2), .val (.int v3), .val (.int v4), .val (.int v5), .val (.int v6), .val (.int v8), .val (.int v10), .val (.int v12), .val (.int v14), .val (.ref (n0 + a15)), .unset, .unset, .unset, .unset, .unset, .unset, .unset, .unset, .unset, .unset, .unset, .unset, .unset, .unset, .unset, .unset, .unset, .unset, .unset] [])) _
    refine XS.aload X16.here hx rfl (hb hby at_110) rfl rfl ?_
    show Steps p.tables e below (T16.setTop (mkF m 112 #[.val (.int i0), .val (.int i1), .val (.int i2), .val (.int i3), .val (.int i4), .val (.int i5), .val (.int v1), .val (.int v2), .val (.int v3), .val (.int v4), .val (.int v5), .val (.int v6), .val (.int v8), .val (.int v10), .val (.int v12), .val (.int v14), .val (.ref (n0 + a15)), .unset, .unset, .unset, .unset, .unset, .unset, .unset, .unset, .unset, .unset, .unset, .unset, .unset, .unset, .unset, .unset, .unset, .unset, .unset] [(.ref (n0 + a15))])) _
    refine XS.iconst X16.here hx rfl (hb hby at_112) ?_
    show Steps p.tables e below (T16.setTop (mkF m 113 #[.val (.int i0), .val (.int i1), .val (.int i2), .val (.int i3), .val (.int i4), .val (.int i5), .val (.int v1), .val (.int v2), .val (.int v3), .val (.int v4), .val (.int v5), .val (.int v6), .val (.int v8), .val (.int v10), .val (.int v12), .val (.int v14), .val (.ref (n0 + a15)), .unset, .unset, .unset, .unset, .unset, .unset, .unset, .unset, .unset, .unset, .unset, .unset, .unset, .unset, .unset, .unset, .unset, .unset, .unset] [(.int (1 : Int32)), (.ref (n0 + a15))])) _
    refine XS.iload X16.here hx rfl (hb hby at_113) rfl ?_
    show Steps p.tables e below (T16.setTop (mkF m 115 #[.val (.int i0), .val (.int i1), .val (.int i2), .val (.int i3), .val (.int i4), .val (.int i5), .val (.int v1), .val (.int v2), .val (.int v3), .val (.int v4), .val (.int v5), .val (.int v6), .val (.int v8), .val (.int v10), .val (.int v12), .val (.int v14), .val (.ref (n0 + a15)), .unset, .unset, .unset, .unset, .unset, .unset, .unset, .unset, .unset, .unset, .unset, .unset, .unset, .unset, .unset, .unset, .unset, .unset, .unset] [(.int v2), (.int (1 : Int32)), (.ref (n0 + a15))])) _
    refine st17 _ ?_
    show Steps p.tables e below (T17.setTop (mkF m 116 #[.val (.int i0), .val (.int i1), .val (.int i2), .val (.int i3), .val (.int i4), .val (.int i5), .val (.int v1), .val (.int v2), .val (.int v3), .val (.int v4), .val (.int v5), .val (.int v6), .val (.int v8), .val (.int v10), .val (.int v12), .val (.int v14), .val (.ref (n0 + a15)), .unset, .unset, .unset, .unset, .unset, .unset, .unset, .unset, .unset, .unset, .unset, .unset, .unset, .unset, .unset, .unset, .unset, .unset, .unset] [])) _
    refine XS.iload X17.here hx rfl (hb hby at_116) rfl ?_
    show Steps p.tables e below (T17.setTop (mkF m 118 #[.val (.int i0), .val (.int i1), .val (.int i2), .val (.int i3), .val (.int i4), .val (.int i5), .val (.int v1), .val (.int v2), .val (.int v3), .val (.int v4), .val (.int v5), .val (.int v6), .val (.int v8), .val (.int v10), .val (.int v12), .val (.int v14), .val (.ref (n0 + a15)), .unset, .unset, .unset, .unset, .unset, .unset, .unset, .unset, .unset, .unset, .unset, .unset, .unset, .unset, .unset, .unset, .unset, .unset, .unset] [(.int v5)])) _
    refine XS.iconst X17.here hx rfl (hb hby at_118) ?_
    exact k
  by_cases hc18 : v5 < (3 : Int32)
  · rw [if_pos hc18] at hf
    refine Gl.on (B := T17.setTop (mkF m 128 #[.val (.int i0), .val (.int i1), .val (.int i2), .val (.int i3), .val (.int i4), .val (.int i5), .val (.int v1), .val (.int v2), .val (.int v3), .val (.int v4), .val (.int v5), .val (.int v6), .val (.int v8), .val (.int v10), .val (.int v12), .val (.int v14), .val (.ref (n0 + a15)), .unset, .unset, .unset, .unset, .unset, .unset, .unset, .unset, .unset, .unset, .unset, .unset, .unset, .unset, .unset, .unset, .unset, .unset, .unset] [])) (fun t k => ?_) ?_
    · show Steps p.tables e below (T17.setTop (mkF m 119 #[.val (.int i0), .val (.int i1), .val (.int i2), .val (.int i3), .val (.int i4), .val (.int i5), .val (.int v1), .val (.int v2), .val (.int v3), .val (.int v4), .val (.int v5), .val (.int v6), .val (.int v8), .val (.int v10), .val (.int v12), .val (.int v14), .val (.ref (n0 + a15)), .unset, .unset, .unset, .unset, .unset, .unset, .unset, .unset, .unset, .unset, .unset, .unset, .unset, .unset, .unset, .unset, .unset, .unset, .unset] [(.int (3 : Int32)), (.int v5)])) _
      refine XS.icmpYes X17.here hx rfl (pc0 := 119) (pc' := 128) rfl (hb hby at_119) rfl (tlt hc18).1 (by decide) (by decide) ?_
      exact k
    exact bt0_128 hw hC X17 e17 O17 N17 (by omega) (by omega) hf
  · rw [if_neg hc18] at hf
    obtain ⟨D19, hq19, hf⟩ := own_bind hf
    obtain ⟨T19, h19, L19, X19, e19, O19, N19, st19⟩ := stIW X17 hx hZ e17 O17 N17 hq19 rfl (g := (mkF m 127 #[.val (.int i0), .val (.int i1), .val (.int i2), .val (.int i3), .val (.int i4), .val (.int i5), .val (.int v1), .val (.int v2), .val (.int v3), .val (.int v4), .val (.int v5), .val (.int v6), .val (.int v8), .val (.int v10), .val (.int v12), .val (.int v14), .val (.ref (n0 + a15)), .unset, .unset, .unset, .unset, .unset, .unset, .unset, .unset, .unset, .unset, .unset, .unset, .unset, .unset, .unset, .unset, .unset, .unset, .unset] [(.int v3), (.int (2 : Int32)), (.ref (n0 + a15))])) rfl rfl (hb hby at_127)
    refine Gl.on (B := T19.setTop (mkF m 128 #[.val (.int i0), .val (.int i1), .val (.int i2), .val (.int i3), .val (.int i4), .val (.int i5), .val (.int v1), .val (.int v2), .val (.int v3), .val (.int v4), .val (.int v5), .val (.int v6), .val (.int v8), .val (.int v10), .val (.int v12), .val (.int v14), .val (.ref (n0 + a15)), .unset, .unset, .unset, .unset, .unset, .unset, .unset, .unset, .unset, .unset, .unset, .unset, .unset, .unset, .unset, .unset, .unset, .unset, .unset] [])) (fun t k => ?_) ?_
    · show Steps p.tables e below (T17.setTop (mkF m 119 #[.val (.int i0), .val (.int i1), .val (.int i2), .val (.int i3), .val (.int i4), .val (.int i5), .val (.int v1), .val (.int v2), .val (.int v3), .val (.int v4), .val (.int v5), .val (.int v6), .val (.int v8), .val (.int v10), .val (.int v12), .val (.int v14), .val (.ref (n0 + a15)), .unset, .unset, .unset, .unset, .unset, .unset, .unset, .unset, .unset, .unset, .unset, .unset, .unset, .unset, .unset, .unset, .unset, .unset, .unset] [(.int (3 : Int32)), (.int v5)])) _
      refine XS.icmpNo X17.here hx rfl (hb hby at_119) rfl (flt hc18).1 ?_
      show Steps p.tables e below (T17.setTop (mkF m 122 #[.val (.int i0), .val (.int i1), .val (.int i2), .val (.int i3), .val (.int i4), .val (.int i5), .val (.int v1), .val (.int v2), .val (.int v3), .val (.int v4), .val (.int v5), .val (.int v6), .val (.int v8), .val (.int v10), .val (.int v12), .val (.int v14), .val (.ref (n0 + a15)), .unset, .unset, .unset, .unset, .unset, .unset, .unset, .unset, .unset, .unset, .unset, .unset, .unset, .unset, .unset, .unset, .unset, .unset, .unset] [])) _
      refine XS.aload X17.here hx rfl (hb hby at_122) rfl rfl ?_
      show Steps p.tables e below (T17.setTop (mkF m 124 #[.val (.int i0), .val (.int i1), .val (.int i2), .val (.int i3), .val (.int i4), .val (.int i5), .val (.int v1), .val (.int v2), .val (.int v3), .val (.int v4), .val (.int v5), .val (.int v6), .val (.int v8), .val (.int v10), .val (.int v12), .val (.int v14), .val (.ref (n0 + a15)), .unset, .unset, .unset, .unset, .unset, .unset, .unset, .unset, .unset, .unset, .unset, .unset, .unset, .unset, .unset, .unset, .unset, .unset, .unset] [(.ref (n0 + a15))])) _
      refine XS.iconst X17.here hx rfl (hb hby at_124) ?_
      show Steps p.tables e below (T17.setTop (mkF m 125 #[.val (.int i0), .val (.int i1), .val (.int i2), .val (.int i3), .val (.int i4), .val (.int i5), .val (.int v1), .val (.int v2), .val (.int v3), .val (.int v4), .val (.int v5), .val (.int v6), .val (.int v8), .val (.int v10), .val (.int v12), .val (.int v14), .val (.ref (n0 + a15)), .unset, .unset, .unset, .unset, .unset, .unset, .unset, .unset, .unset, .unset, .unset, .unset, .unset, .unset, .unset, .unset, .unset, .unset, .unset] [(.int (2 : Int32)), (.ref (n0 + a15))])) _
      refine XS.iload X17.here hx rfl (hb hby at_125) rfl ?_
      show Steps p.tables e below (T17.setTop (mkF m 127 #[.val (.int i0), .val (.int i1), .val (.int i2), .val (.int i3), .val (.int i4), .val (.int i5), .val (.int v1), .val (.int v2), .val (.int v3), .val (.int v4), .val (.int v5), .val (.int v6), .val (.int v8), .val (.int v10), .val (.int v12), .val (.int v14), .val (.ref (n0 + a15)), .unset, .unset, .unset, .unset, .unset, .unset, .unset, .unset, .unset, .unset, .unset, .unset, .unset, .unset, .unset, .unset, .unset, .unset, .unset] [(.int v3), (.int (2 : Int32)), (.ref (n0 + a15))])) _
      refine st19 _ ?_
      exact k
    exact bt0_128 hw hC X19 e19 O19 N19 (by omega) (by omega) hf
theorem own_fin (x : Int32) (n : Nat) (h0 : 0 ≤ x.toInt) (h1 : x.toInt < n) : ∃ p : Fin n, x = p.1.toInt32 :=
  ⟨⟨x.toNatClampNeg, by simp only [Int32.toNatClampNeg]; omega⟩, (back32 (by rw [Int32.lt_iff_toInt_lt]; have : (0 : Int32).toInt = 0 := rfl; omega)).1.symm⟩
theorem own_modr (x n : Int32) (hn : 0 < n.toInt) : 0 ≤ ((x &&& (2147483647 : Int32)) % n).toInt ∧ ((x &&& (2147483647 : Int32)) % n).toInt < n.toInt := by
  have e1 := c_and x (2147483647 : Int32) (by decide)
  have e2 := (c_irem (x &&& (2147483647 : Int32)) n n.toInt rfl).1 e1.1
  rw [e2]
  exact ⟨Int.emod_nonneg _ (by omega), Int.emod_lt_of_pos _ hn⟩
theorem own_mm (x n : Int32) (hn : 0 < n.toInt) : ((((x &&& (2147483647 : Int32)) % n) &&& (2147483647 : Int32)) % n) = ((x &&& (2147483647 : Int32)) % n) := by
  obtain ⟨h1, h2⟩ := own_modr x n hn
  have e0 : ((2 ^ 31 : Nat) : Int) = 2147483648 := by decide
  have u := Int32.toInt_lt ((x &&& (2147483647 : Int32)) % n)
  have e1 : (((x &&& (2147483647 : Int32)) % n) &&& (2147483647 : Int32)).toInt = ((x &&& (2147483647 : Int32)) % n).toInt := by
    rw [c_mask _ 2147483647 31 (by decide) (by decide), e0]; omega
  have e2 : (((x &&& (2147483647 : Int32)) % n) &&& (2147483647 : Int32)) = ((x &&& (2147483647 : Int32)) % n) := Int32.toInt_inj.mp e1
  rw [e2]
  apply Int32.toInt_inj.mp
  rw [(c_irem _ n n.toInt rfl).1 h1]
  exact Int.emod_eq_of_lt h1 h2
theorem own_ex {α : Type} {o : Option (Int32 × α)} (h : o.map Prod.fst = some (1 : Int32)) : ∃ D', o = some ((1 : Int32), D') := by
  cases o with
  | none => cases h
  | some q => obtain ⟨x, D⟩ := q; exact ⟨D, by cases h; rfl⟩
theorem own_letU {α β : Type} {a : α} {f : α → β} : own_let a f = f a := rfl
theorem own_or (x y : Int64) (hx : 0 ≤ x.toInt ∧ x.toInt < 2147483648) (hy : 0 ≤ y.toInt ∧ y.toInt < 2147483648) : 0 ≤ (x ||| y).toInt ∧ (x ||| y).toInt < 2147483648 := by
  have e1 : x.toInt = x.toBitVec.toInt := rfl
  have e2 : y.toInt = y.toBitVec.toInt := rfl
  have e3 : (x ||| y).toInt = (x.toBitVec ||| y.toBitVec).toInt := rfl
  rw [e1] at hx; rw [e2] at hy; rw [e3]
  have l1 := x.toBitVec.isLt; have l2 := y.toBitVec.isLt; have l3 := (x.toBitVec ||| y.toBitVec).isLt
  rw [BitVec.toInt_eq_toNat_cond] at hx hy ⊢
  have hx' : x.toBitVec.toNat < 2 ^ 31 := by split at hx <;> omega
  have hy' : y.toBitVec.toNat < 2 ^ 31 := by split at hy <;> omega
  have := Nat.or_lt_two_pow hx' hy'
  rw [BitVec.toNat_or]
  rw [if_pos (by omega)]
  omega
theorem own_f6 (D : Hp) (x : Int64) (h : 0 ≤ x.toInt) : f6 D x = some (x, D) := by
  rw [f6, if_neg (by rw [Int64.lt_iff_toInt_lt]; have : (0 : Int64).toInt = 0 := rfl; omega)]
theorem own_f5 (D : Hp) (x y : Int64) (hx : 0 ≤ x.toInt ∧ x.toInt < 2147483648) (hy : 0 ≤ y.toInt ∧ y.toInt < 2147483648) : f5 D x y = some (x * y, D) := by
  rw [f5, own_letU, own_f6 _ _ hx.1, Option.bind_some, own_letU, own_letU, own_f6 _ _ hy.1, Option.bind_some, own_letU, own_letU, if_pos]
  apply Int64.toInt_inj.mp
  have h := own_or x y hx hy
  show (((x ||| y).toUInt64 >>> ((31 : Int32) &&& 0x3f).toInt64.toUInt64).toInt64).toInt = _
  rw [c_lushr _ 31 31 (by decide) (by decide)]
  have e : ((2 ^ 31 : Nat) : Int) = 2147483648 := by decide
  have e0 : (0 : Int64).toInt = 0 := rfl
  rw [e, e0]; omega
theorem own_f4 (D : Hp) (x : Int64) (y : Int32) (hx : 0 ≤ x.toInt ∧ x.toInt < 2147483648) (hy : 0 ≤ y.toInt) : f4 D x y = some (x * y.toInt64, D) := by
  have l := y.toInt_lt
  rw [f4, own_f5 D x y.toInt64 hx (by rw [Int32.toInt_toInt64]; omega), Option.bind_some, own_letU, own_letU]
theorem own_f7 (D : Hp) (x y : Int64) (h : XT.fits64 (x.toInt + y.toInt)) : f7 D x y = some (x + y, D) := by
  rw [f7, own_letU, if_neg (XT.addOk64 h)]
theorem own_st (fu : Nat) (D : Hp) (j1 j3 : Int64) (ob : Nat) (n i x : Int32) (hi : i < n) (hx : rI D ob 0 i = some x) (b1 : 0 ≤ j1.toInt ∧ j1.toInt ≤ 9000000) (b3 : 0 ≤ j3.toInt ∧ j3.toInt ≤ 4096) (bx : 0 ≤ x.toInt ∧ x.toInt ≤ 512) :
    ∃ j1' j3' : Int64, b3_15 (fu + 1) D j1 j3 ob n i = b3_15 fu D j1' j3' ob n (i + 1) ∧ j1'.toInt = j1.toInt + j3.toInt * x.toInt ∧ j3'.toInt = j3.toInt + x.toInt := by
  have hm : 0 ≤ j3.toInt * x.toInt ∧ j3.toInt * x.toInt ≤ 4096 * 512 := ⟨Int.mul_nonneg b3.1 bx.1, Int.mul_le_mul b3.2 bx.2 bx.1 (by decide)⟩
  have h1 : (j3 * x.toInt64).toInt = j3.toInt * x.toInt := by
    rw [XT.mul64 (by rw [Int32.toInt_toInt64]; constructor <;> omega), Int32.toInt_toInt64]
  refine ⟨j1 + j3 * x.toInt64, j3 + x.toInt64, ?_, ?_, ?_⟩
  · rw [b3_15, if_pos hi, hx, Option.bind_some, own_f4 D j3 x ⟨b3.1, by omega⟩ bx.1, Option.bind_some, own_letU, own_letU, own_f7 _ _ _ (by rw [h1]; constructor <;> omega), Option.bind_some, own_letU, own_letU, own_letU]
  · rw [XT.add64 (by rw [h1]; constructor <;> omega), h1]
  · rw [XT.add64 (by rw [Int32.toInt_toInt64]; constructor <;> omega), Int32.toInt_toInt64]
theorem own_mb (a b A B : Int) (ha : 0 ≤ a ∧ a ≤ A) (hb : 0 ≤ b ∧ b ≤ B) : 0 ≤ a * b ∧ a * b ≤ A * B := ⟨Int.mul_nonneg ha.1 hb.1, Int.mul_le_mul ha.2 hb.2 hb.1 (by omega)⟩

theorem own_pc2 (D : Hp) (ob : Nat) (s0 s1 : Int32) (hD : D[ob]? = some (0, [.int s0, .int s1])) (h0 : 0 ≤ s0.toInt ∧ s0.toInt ≤ 512) (h1 : 0 ≤ s1.toInt ∧ s1.toInt ≤ 512) : ∃ c : Int64, f3 D ob = some (c, D) ∧ c.toInt ≤ 10000000 := by
  rw [f3, show lA D ob 0 = some (2 : Int32) from by rw [lA, hD]; rfl, Option.bind_some]
  have z : (0 : Int64).toInt = 0 := rfl
  obtain ⟨j1, k1, e1, p1, q1⟩ := own_st 11 D 0 0 ob 2 0 s0 (by decide) (by rw [rI, rV, hD]; rfl) (by omega) (by omega) h0
  rw [show (12 : Nat) = 11 + 1 from rfl, e1, show (0 : Int32) + 1 = 1 from rfl]
  have m1 := own_mb (0 : Int64).toInt s0.toInt 0 512 (by omega) h0
  obtain ⟨j2, k2, e2, p2, q2⟩ := own_st 10 D j1 k1 ob 2 1 s1 (by decide) (by rw [rI, rV, hD]; rfl) (by omega) (by omega) h1
  rw [show (11 : Nat) = 10 + 1 from rfl, e2, show (1 : Int32) + 1 = 2 from rfl]
  have m2 := own_mb (k1 : Int64).toInt s1.toInt 512 512 (by omega) h1
  refine ⟨j2, ?_, by omega⟩
  rw [show (10 : Nat) = 9 + 1 from rfl, b3_15, if_neg (by decide)]
theorem own_pc3 (D : Hp) (ob : Nat) (s0 s1 s2 : Int32) (hD : D[ob]? = some (0, [.int s0, .int s1, .int s2])) (h0 : 0 ≤ s0.toInt ∧ s0.toInt ≤ 512) (h1 : 0 ≤ s1.toInt ∧ s1.toInt ≤ 512) (h2 : 0 ≤ s2.toInt ∧ s2.toInt ≤ 512) : ∃ c : Int64, f3 D ob = some (c, D) ∧ c.toInt ≤ 10000000 := by
  rw [f3, show lA D ob 0 = some (3 : Int32) from by rw [lA, hD]; rfl, Option.bind_some]
  have z : (0 : Int64).toInt = 0 := rfl
  obtain ⟨j1, k1, e1, p1, q1⟩ := own_st 11 D 0 0 ob 3 0 s0 (by decide) (by rw [rI, rV, hD]; rfl) (by omega) (by omega) h0
  rw [show (12 : Nat) = 11 + 1 from rfl, e1, show (0 : Int32) + 1 = 1 from rfl]
  have m1 := own_mb (0 : Int64).toInt s0.toInt 0 512 (by omega) h0
  obtain ⟨j2, k2, e2, p2, q2⟩ := own_st 10 D j1 k1 ob 3 1 s1 (by decide) (by rw [rI, rV, hD]; rfl) (by omega) (by omega) h1
  rw [show (11 : Nat) = 10 + 1 from rfl, e2, show (1 : Int32) + 1 = 2 from rfl]
  have m2 := own_mb (k1 : Int64).toInt s1.toInt 512 512 (by omega) h1
  obtain ⟨j3, k3, e3, p3, q3⟩ := own_st 9 D j2 k2 ob 3 2 s2 (by decide) (by rw [rI, rV, hD]; rfl) (by omega) (by omega) h2
  rw [show (10 : Nat) = 9 + 1 from rfl, e3, show (2 : Int32) + 1 = 3 from rfl]
  have m3 := own_mb (k2 : Int64).toInt s2.toInt 1024 512 (by omega) h2
  refine ⟨j3, ?_, by omega⟩
  rw [show (9 : Nat) = 8 + 1 from rfl, b3_15, if_neg (by decide)]
theorem own_pc4 (D : Hp) (ob : Nat) (s0 s1 s2 s3 : Int32) (hD : D[ob]? = some (0, [.int s0, .int s1, .int s2, .int s3])) (h0 : 0 ≤ s0.toInt ∧ s0.toInt ≤ 512) (h1 : 0 ≤ s1.toInt ∧ s1.toInt ≤ 512) (h2 : 0 ≤ s2.toInt ∧ s2.toInt ≤ 512) (h3 : 0 ≤ s3.toInt ∧ s3.toInt ≤ 512) : ∃ c : Int64, f3 D ob = some (c, D) ∧ c.toInt ≤ 10000000 := by
  rw [f3, show lA D ob 0 = some (4 : Int32) from by rw [lA, hD]; rfl, Option.bind_some]
  have z : (0 : Int64).toInt = 0 := rfl
  obtain ⟨j1, k1, e1, p1, q1⟩ := own_st 11 D 0 0 ob 4 0 s0 (by decide) (by rw [rI, rV, hD]; rfl) (by omega) (by omega) h0
  rw [show (12 : Nat) = 11 + 1 from rfl, e1, show (0 : Int32) + 1 = 1 from rfl]
  have m1 := own_mb (0 : Int64).toInt s0.toInt 0 512 (by omega) h0
  obtain ⟨j2, k2, e2, p2, q2⟩ := own_st 10 D j1 k1 ob 4 1 s1 (by decide) (by rw [rI, rV, hD]; rfl) (by omega) (by omega) h1
  rw [show (11 : Nat) = 10 + 1 from rfl, e2, show (1 : Int32) + 1 = 2 from rfl]
  have m2 := own_mb (k1 : Int64).toInt s1.toInt 512 512 (by omega) h1
  obtain ⟨j3, k3, e3, p3, q3⟩ := own_st 9 D j2 k2 ob 4 2 s2 (by decide) (by rw [rI, rV, hD]; rfl) (by omega) (by omega) h2
  rw [show (10 : Nat) = 9 + 1 from rfl, e3, show (2 : Int32) + 1 = 3 from rfl]
  have m3 := own_mb (k2 : Int64).toInt s2.toInt 1024 512 (by omega) h2
  obtain ⟨j4, k4, e4, p4, q4⟩ := own_st 8 D j3 k3 ob 4 3 s3 (by decide) (by rw [rI, rV, hD]; rfl) (by omega) (by omega) h3
  rw [show (9 : Nat) = 8 + 1 from rfl, e4, show (3 : Int32) + 1 = 4 from rfl]
  have m4 := own_mb (k3 : Int64).toInt s3.toInt 1536 512 (by omega) h3
  refine ⟨j4, ?_, by omega⟩
  rw [show (8 : Nat) = 7 + 1 from rfl, b3_15, if_neg (by decide)]
theorem own_letV {α β : Type} {a b : α} (h : a = b) {f : α → β} : own_let a f = f b := by rw [h]; rfl
theorem own_bs {α β : Type} {o : Option α} {a : α} (h : o = some a) {f : α → Option β} : o.bind f = f a := by rw [h]; rfl
theorem own_letP1 {α β γ : Type} {a : α} {b : β} {f : α → γ} : own_let (a, b).1 f = f a := rfl
theorem own_letP2 {α β γ : Type} {a : α} {b : β} {f : β → γ} : own_let (a, b).2 f = f b := rfl
theorem own_letP21 {α β δ γ : Type} {a : α} {b : β} {c : δ} {f : β → γ} : own_let (a, b, c).2.1 f = f b := rfl
theorem own_letP221 {α β δ ε γ : Type} {a : α} {b : β} {c : δ} {d : ε} {f : δ → γ} : own_let (a, b, c, d).2.2.1 f = f c := rfl
theorem own_letP222 {α β δ ε γ : Type} {a : α} {b : β} {c : δ} {d : ε} {f : ε → γ} : own_let (a, b, c, d).2.2.2 f = f d := rfl
def oH0 (s0 s1 : Int32) : Hp := [(0, [.int s0, .int s1])]
def oH1 (s0 s1 : Int32) : Hp := [(0, [.int s0, .int s1]), (1, [.null, .null, .null, .int (0 : Int32)])]
def oH2 (s0 s1 : Int32) : Hp := [(0, [.int s0, .int s1]), (1, [.null, .null, .null, .int (0 : Int32)]), (0, [.int s0, .int s1])]
def oH3 (s0 s1 : Int32) : Hp := [(0, [.int s0, .int s1]), (1, [.ref 2, .null, .null, .int (0 : Int32)]), (0, [.int s0, .int s1])]
def oH4 (s0 s1 : Int32) : Hp := [(0, [.int s0, .int s1]), (1, [.ref 2, .null, .null, .int (0 : Int32)]), (0, [.int s0, .int s1]), (0, [.int (0 : Int32), .int (0 : Int32), .int (0 : Int32)])]
def oH5 (s0 s1 : Int32) : Hp := [(0, [.int s0, .int s1]), (1, [.ref 2, .ref 3, .null, .int (0 : Int32)]), (0, [.int s0, .int s1]), (0, [.int (0 : Int32), .int (0 : Int32), .int (0 : Int32)])]
def oH6 (s0 s1 : Int32) : Hp := [(0, [.int s0, .int s1]), (1, [.ref 2, .ref 3, .null, .int (0 : Int32)]), (0, [.int s0, .int s1]), (0, [.int (0 : Int32), .int ((0 : Int32) + s0), .int (0 : Int32)])]
def oO7 (s0 s1 : Int32) : List Value := [.int (0 : Int32), .int ((0 : Int32) + s0), .int (((0 : Int32) + s0) + s1)]
def oH8 (s0 s1 : Int32) : Hp := [(0, [.int s0, .int s1]), (1, [.ref 2, .ref 3, .null, .int (0 : Int32)]), (0, [.int s0, .int s1]), (0, (oO7 s0 s1))]
def oH9 (s0 s1 : Int32) : Hp := [(0, [.int s0, .int s1]), (1, [.ref 2, .ref 3, .null, .int (0 : Int32)]), (0, [.int s0, .int s1]), (0, (oO7 s0 s1)), (0, [.int (0 : Int32), .int (0 : Int32)])]
def oH10 (s0 s1 : Int32) : Hp := [(0, [.int s0, .int s1]), (1, [.ref 2, .ref 3, .ref 4, .int (0 : Int32)]), (0, [.int s0, .int s1]), (0, (oO7 s0 s1)), (0, [.int (0 : Int32), .int (0 : Int32)])]
def oO11 (s0 s1 : Int32) : List Value := [.int (0 : Int32), .int ((0 : Int32) + (s0 * ((((0 : Int32) + s0) + s1) - ((0 : Int32) + s0))))]
def oH12 (s0 s1 : Int32) : Hp := [(0, [.int s0, .int s1]), (1, [.ref 2, .ref 3, .ref 4, .int (0 : Int32)]), (0, [.int s0, .int s1]), (0, (oO7 s0 s1)), (0, (oO11 s0 s1))]
def oH13 (s0 s1 : Int32) (c : Int64) : Hp := [(0, [.int s0, .int s1]), (1, [.ref 2, .ref 3, .ref 4, .int (c.toInt32)]), (0, [.int s0, .int s1]), (0, (oO7 s0 s1)), (0, (oO11 s0 s1))]
def oO14  : List Value := [.int (0 : Int32), .int (0 : Int32), .int (0 : Int32), .int (0 : Int32), .int (0 : Int32), .int (0 : Int32), .int (0 : Int32), .int (0 : Int32)]
def oH15 (s0 s1 : Int32) (c : Int64) : Hp := [(0, [.int s0, .int s1]), (1, [.ref 2, .ref 3, .ref 4, .int (c.toInt32)]), (0, [.int s0, .int s1]), (0, (oO7 s0 s1)), (0, (oO11 s0 s1)), (0, oO14)]
def oO16  : List Value := [.int (100 : Int32), .int (0 : Int32), .int (0 : Int32), .int (0 : Int32), .int (0 : Int32), .int (0 : Int32), .int (0 : Int32), .int (0 : Int32)]
def oH17 (s0 s1 : Int32) (c : Int64) : Hp := [(0, [.int s0, .int s1]), (1, [.ref 2, .ref 3, .ref 4, .int (c.toInt32)]), (0, [.int s0, .int s1]), (0, (oO7 s0 s1)), (0, (oO11 s0 s1)), (0, oO16)]
def oO18  : List Value := [.int (100 : Int32), .int (101 : Int32), .int (0 : Int32), .int (0 : Int32), .int (0 : Int32), .int (0 : Int32), .int (0 : Int32), .int (0 : Int32)]
def oH19 (s0 s1 : Int32) (c : Int64) : Hp := [(0, [.int s0, .int s1]), (1, [.ref 2, .ref 3, .ref 4, .int (c.toInt32)]), (0, [.int s0, .int s1]), (0, (oO7 s0 s1)), (0, (oO11 s0 s1)), (0, oO18)]
def oO20  : List Value := [.int (100 : Int32), .int (101 : Int32), .int (102 : Int32), .int (0 : Int32), .int (0 : Int32), .int (0 : Int32), .int (0 : Int32), .int (0 : Int32)]
def oH21 (s0 s1 : Int32) (c : Int64) : Hp := [(0, [.int s0, .int s1]), (1, [.ref 2, .ref 3, .ref 4, .int (c.toInt32)]), (0, [.int s0, .int s1]), (0, (oO7 s0 s1)), (0, (oO11 s0 s1)), (0, oO20)]
def oO22  : List Value := [.int (100 : Int32), .int (101 : Int32), .int (102 : Int32), .int (103 : Int32), .int (0 : Int32), .int (0 : Int32), .int (0 : Int32), .int (0 : Int32)]
def oH23 (s0 s1 : Int32) (c : Int64) : Hp := [(0, [.int s0, .int s1]), (1, [.ref 2, .ref 3, .ref 4, .int (c.toInt32)]), (0, [.int s0, .int s1]), (0, (oO7 s0 s1)), (0, (oO11 s0 s1)), (0, oO22)]
def oO24  : List Value := [.int (100 : Int32), .int (101 : Int32), .int (102 : Int32), .int (103 : Int32), .int (104 : Int32), .int (0 : Int32), .int (0 : Int32), .int (0 : Int32)]
def oH25 (s0 s1 : Int32) (c : Int64) : Hp := [(0, [.int s0, .int s1]), (1, [.ref 2, .ref 3, .ref 4, .int (c.toInt32)]), (0, [.int s0, .int s1]), (0, (oO7 s0 s1)), (0, (oO11 s0 s1)), (0, oO24)]
def oO26  : List Value := [.int (100 : Int32), .int (101 : Int32), .int (102 : Int32), .int (103 : Int32), .int (104 : Int32), .int (105 : Int32), .int (0 : Int32), .int (0 : Int32)]
def oH27 (s0 s1 : Int32) (c : Int64) : Hp := [(0, [.int s0, .int s1]), (1, [.ref 2, .ref 3, .ref 4, .int (c.toInt32)]), (0, [.int s0, .int s1]), (0, (oO7 s0 s1)), (0, (oO11 s0 s1)), (0, oO26)]
def oO28  : List Value := [.int (100 : Int32), .int (101 : Int32), .int (102 : Int32), .int (103 : Int32), .int (104 : Int32), .int (105 : Int32), .int (106 : Int32), .int (0 : Int32)]
def oH29 (s0 s1 : Int32) (c : Int64) : Hp := [(0, [.int s0, .int s1]), (1, [.ref 2, .ref 3, .ref 4, .int (c.toInt32)]), (0, [.int s0, .int s1]), (0, (oO7 s0 s1)), (0, (oO11 s0 s1)), (0, oO28)]
def oO30  : List Value := [.int (100 : Int32), .int (101 : Int32), .int (102 : Int32), .int (103 : Int32), .int (104 : Int32), .int (105 : Int32), .int (106 : Int32), .int (107 : Int32)]
def oH31 (s0 s1 : Int32) (c : Int64) : Hp := [(0, [.int s0, .int s1]), (1, [.ref 2, .ref 3, .ref 4, .int (c.toInt32)]), (0, [.int s0, .int s1]), (0, (oO7 s0 s1)), (0, (oO11 s0 s1)), (0, oO30)]
def oO32 (g0 : Int32) : List Value := [.int g0, .int (101 : Int32), .int (102 : Int32), .int (103 : Int32), .int (104 : Int32), .int (105 : Int32), .int (106 : Int32), .int (107 : Int32)]
def oH33 (s0 s1 g0 : Int32) (c : Int64) : Hp := [(0, [.int s0, .int s1]), (1, [.ref 2, .ref 3, .ref 4, .int (c.toInt32)]), (0, [.int s0, .int s1]), (0, (oO7 s0 s1)), (0, (oO11 s0 s1)), (0, (oO32 g0))]
def oO34 (g0 g1 : Int32) : List Value := [.int g0, .int g1, .int (102 : Int32), .int (103 : Int32), .int (104 : Int32), .int (105 : Int32), .int (106 : Int32), .int (107 : Int32)]
def oH35 (s0 s1 g0 g1 : Int32) (c : Int64) : Hp := [(0, [.int s0, .int s1]), (1, [.ref 2, .ref 3, .ref 4, .int (c.toInt32)]), (0, [.int s0, .int s1]), (0, (oO7 s0 s1)), (0, (oO11 s0 s1)), (0, (oO34 g0 g1))]
def oO36  : List Value := [.int (0 : Int32), .int (0 : Int32), .int (0 : Int32), .int (0 : Int32), .int (0 : Int32), .int (0 : Int32), .int (0 : Int32)]
def oH37 (s0 s1 g0 g1 : Int32) (c : Int64) : Hp := [(0, [.int s0, .int s1]), (1, [.ref 2, .ref 3, .ref 4, .int (c.toInt32)]), (0, [.int s0, .int s1]), (0, (oO7 s0 s1)), (0, (oO11 s0 s1)), (0, (oO34 g0 g1)), (0, oO36)]
def oO38  : List Value := [.int (-1 : Int32), .int (0 : Int32), .int (0 : Int32), .int (0 : Int32), .int (0 : Int32), .int (0 : Int32), .int (0 : Int32)]
def oH39 (s0 s1 g0 g1 : Int32) (c : Int64) : Hp := [(0, [.int s0, .int s1]), (1, [.ref 2, .ref 3, .ref 4, .int (c.toInt32)]), (0, [.int s0, .int s1]), (0, (oO7 s0 s1)), (0, (oO11 s0 s1)), (0, (oO34 g0 g1)), (0, oO38)]
def oO40  : List Value := [.int (-1 : Int32), .int (-1 : Int32), .int (0 : Int32), .int (0 : Int32), .int (0 : Int32), .int (0 : Int32), .int (0 : Int32)]
def oH41 (s0 s1 g0 g1 : Int32) (c : Int64) : Hp := [(0, [.int s0, .int s1]), (1, [.ref 2, .ref 3, .ref 4, .int (c.toInt32)]), (0, [.int s0, .int s1]), (0, (oO7 s0 s1)), (0, (oO11 s0 s1)), (0, (oO34 g0 g1)), (0, oO40)]
def oO42  : List Value := [.int (-1 : Int32), .int (-1 : Int32), .int (-1 : Int32), .int (0 : Int32), .int (0 : Int32), .int (0 : Int32), .int (0 : Int32)]
def oH43 (s0 s1 g0 g1 : Int32) (c : Int64) : Hp := [(0, [.int s0, .int s1]), (1, [.ref 2, .ref 3, .ref 4, .int (c.toInt32)]), (0, [.int s0, .int s1]), (0, (oO7 s0 s1)), (0, (oO11 s0 s1)), (0, (oO34 g0 g1)), (0, oO42)]
def oO44  : List Value := [.int (-1 : Int32), .int (-1 : Int32), .int (-1 : Int32), .int (-1 : Int32), .int (0 : Int32), .int (0 : Int32), .int (0 : Int32)]
def oH45 (s0 s1 g0 g1 : Int32) (c : Int64) : Hp := [(0, [.int s0, .int s1]), (1, [.ref 2, .ref 3, .ref 4, .int (c.toInt32)]), (0, [.int s0, .int s1]), (0, (oO7 s0 s1)), (0, (oO11 s0 s1)), (0, (oO34 g0 g1)), (0, oO44)]
def oO46  : List Value := [.int (-1 : Int32), .int (-1 : Int32), .int (-1 : Int32), .int (-1 : Int32), .int (-1 : Int32), .int (0 : Int32), .int (0 : Int32)]
def oH47 (s0 s1 g0 g1 : Int32) (c : Int64) : Hp := [(0, [.int s0, .int s1]), (1, [.ref 2, .ref 3, .ref 4, .int (c.toInt32)]), (0, [.int s0, .int s1]), (0, (oO7 s0 s1)), (0, (oO11 s0 s1)), (0, (oO34 g0 g1)), (0, oO46)]
def oO48  : List Value := [.int (-1 : Int32), .int (-1 : Int32), .int (-1 : Int32), .int (-1 : Int32), .int (-1 : Int32), .int (-1 : Int32), .int (0 : Int32)]
def oH49 (s0 s1 g0 g1 : Int32) (c : Int64) : Hp := [(0, [.int s0, .int s1]), (1, [.ref 2, .ref 3, .ref 4, .int (c.toInt32)]), (0, [.int s0, .int s1]), (0, (oO7 s0 s1)), (0, (oO11 s0 s1)), (0, (oO34 g0 g1)), (0, oO48)]
def oO50  : List Value := [.int (-1 : Int32), .int (-1 : Int32), .int (-1 : Int32), .int (-1 : Int32), .int (-1 : Int32), .int (-1 : Int32), .int (-1 : Int32)]
def oH51 (s0 s1 g0 g1 : Int32) (c : Int64) : Hp := [(0, [.int s0, .int s1]), (1, [.ref 2, .ref 3, .ref 4, .int (c.toInt32)]), (0, [.int s0, .int s1]), (0, (oO7 s0 s1)), (0, (oO11 s0 s1)), (0, (oO34 g0 g1)), (0, oO50)]
def oO52 (s1 g0 g1 : Int32) : List Value := [.int (((0 : Int32) + (g0 * s1)) + g1), .int (-1 : Int32), .int (-1 : Int32), .int (-1 : Int32), .int (-1 : Int32), .int (-1 : Int32), .int (-1 : Int32)]
def oH53 (s0 s1 g0 g1 : Int32) (c : Int64) : Hp := [(0, [.int s0, .int s1]), (1, [.ref 2, .ref 3, .ref 4, .int (c.toInt32)]), (0, [.int s0, .int s1]), (0, (oO7 s0 s1)), (0, (oO11 s0 s1)), (0, (oO34 g0 g1)), (0, (oO52 s1 g0 g1))]
def oO54 (g0 : Int32) : List Value := [.int (100 : Int32), .int g0, .int (102 : Int32), .int (103 : Int32), .int (104 : Int32), .int (105 : Int32), .int (106 : Int32), .int (107 : Int32)]
def oH55 (s0 s1 g0 : Int32) (c : Int64) : Hp := [(0, [.int s0, .int s1]), (1, [.ref 2, .ref 3, .ref 4, .int (c.toInt32)]), (0, [.int s0, .int s1]), (0, (oO7 s0 s1)), (0, (oO11 s0 s1)), (0, (oO54 g0))]
def oO56 (g0 g1 : Int32) : List Value := [.int (100 : Int32), .int g0, .int g1, .int (103 : Int32), .int (104 : Int32), .int (105 : Int32), .int (106 : Int32), .int (107 : Int32)]
def oH57 (s0 s1 g0 g1 : Int32) (c : Int64) : Hp := [(0, [.int s0, .int s1]), (1, [.ref 2, .ref 3, .ref 4, .int (c.toInt32)]), (0, [.int s0, .int s1]), (0, (oO7 s0 s1)), (0, (oO11 s0 s1)), (0, (oO56 g0 g1))]
def oH58 (s0 s1 g0 g1 : Int32) (c : Int64) : Hp := [(0, [.int s0, .int s1]), (1, [.ref 2, .ref 3, .ref 4, .int (c.toInt32)]), (0, [.int s0, .int s1]), (0, (oO7 s0 s1)), (0, (oO11 s0 s1)), (0, (oO56 g0 g1)), (0, oO36)]
def oH59 (s0 s1 g0 g1 : Int32) (c : Int64) : Hp := [(0, [.int s0, .int s1]), (1, [.ref 2, .ref 3, .ref 4, .int (c.toInt32)]), (0, [.int s0, .int s1]), (0, (oO7 s0 s1)), (0, (oO11 s0 s1)), (0, (oO56 g0 g1)), (0, oO38)]
def oH60 (s0 s1 g0 g1 : Int32) (c : Int64) : Hp := [(0, [.int s0, .int s1]), (1, [.ref 2, .ref 3, .ref 4, .int (c.toInt32)]), (0, [.int s0, .int s1]), (0, (oO7 s0 s1)), (0, (oO11 s0 s1)), (0, (oO56 g0 g1)), (0, oO40)]
def oH61 (s0 s1 g0 g1 : Int32) (c : Int64) : Hp := [(0, [.int s0, .int s1]), (1, [.ref 2, .ref 3, .ref 4, .int (c.toInt32)]), (0, [.int s0, .int s1]), (0, (oO7 s0 s1)), (0, (oO11 s0 s1)), (0, (oO56 g0 g1)), (0, oO42)]
def oH62 (s0 s1 g0 g1 : Int32) (c : Int64) : Hp := [(0, [.int s0, .int s1]), (1, [.ref 2, .ref 3, .ref 4, .int (c.toInt32)]), (0, [.int s0, .int s1]), (0, (oO7 s0 s1)), (0, (oO11 s0 s1)), (0, (oO56 g0 g1)), (0, oO44)]
def oH63 (s0 s1 g0 g1 : Int32) (c : Int64) : Hp := [(0, [.int s0, .int s1]), (1, [.ref 2, .ref 3, .ref 4, .int (c.toInt32)]), (0, [.int s0, .int s1]), (0, (oO7 s0 s1)), (0, (oO11 s0 s1)), (0, (oO56 g0 g1)), (0, oO46)]
def oH64 (s0 s1 g0 g1 : Int32) (c : Int64) : Hp := [(0, [.int s0, .int s1]), (1, [.ref 2, .ref 3, .ref 4, .int (c.toInt32)]), (0, [.int s0, .int s1]), (0, (oO7 s0 s1)), (0, (oO11 s0 s1)), (0, (oO56 g0 g1)), (0, oO48)]
def oH65 (s0 s1 g0 g1 : Int32) (c : Int64) : Hp := [(0, [.int s0, .int s1]), (1, [.ref 2, .ref 3, .ref 4, .int (c.toInt32)]), (0, [.int s0, .int s1]), (0, (oO7 s0 s1)), (0, (oO11 s0 s1)), (0, (oO56 g0 g1)), (0, oO50)]
def oH66 (s0 s1 g0 g1 : Int32) (c : Int64) : Hp := [(0, [.int s0, .int s1]), (1, [.ref 2, .ref 3, .ref 4, .int (c.toInt32)]), (0, [.int s0, .int s1]), (0, (oO7 s0 s1)), (0, (oO11 s0 s1)), (0, (oO56 g0 g1)), (0, (oO52 s1 g0 g1))]
def oO67 (g0 : Int32) : List Value := [.int (100 : Int32), .int (101 : Int32), .int g0, .int (103 : Int32), .int (104 : Int32), .int (105 : Int32), .int (106 : Int32), .int (107 : Int32)]
def oH68 (s0 s1 g0 : Int32) (c : Int64) : Hp := [(0, [.int s0, .int s1]), (1, [.ref 2, .ref 3, .ref 4, .int (c.toInt32)]), (0, [.int s0, .int s1]), (0, (oO7 s0 s1)), (0, (oO11 s0 s1)), (0, (oO67 g0))]
def oO69 (g0 g1 : Int32) : List Value := [.int (100 : Int32), .int (101 : Int32), .int g0, .int g1, .int (104 : Int32), .int (105 : Int32), .int (106 : Int32), .int (107 : Int32)]
def oH70 (s0 s1 g0 g1 : Int32) (c : Int64) : Hp := [(0, [.int s0, .int s1]), (1, [.ref 2, .ref 3, .ref 4, .int (c.toInt32)]), (0, [.int s0, .int s1]), (0, (oO7 s0 s1)), (0, (oO11 s0 s1)), (0, (oO69 g0 g1))]
def oH71 (s0 s1 g0 g1 : Int32) (c : Int64) : Hp := [(0, [.int s0, .int s1]), (1, [.ref 2, .ref 3, .ref 4, .int (c.toInt32)]), (0, [.int s0, .int s1]), (0, (oO7 s0 s1)), (0, (oO11 s0 s1)), (0, (oO69 g0 g1)), (0, oO36)]
def oH72 (s0 s1 g0 g1 : Int32) (c : Int64) : Hp := [(0, [.int s0, .int s1]), (1, [.ref 2, .ref 3, .ref 4, .int (c.toInt32)]), (0, [.int s0, .int s1]), (0, (oO7 s0 s1)), (0, (oO11 s0 s1)), (0, (oO69 g0 g1)), (0, oO38)]
def oH73 (s0 s1 g0 g1 : Int32) (c : Int64) : Hp := [(0, [.int s0, .int s1]), (1, [.ref 2, .ref 3, .ref 4, .int (c.toInt32)]), (0, [.int s0, .int s1]), (0, (oO7 s0 s1)), (0, (oO11 s0 s1)), (0, (oO69 g0 g1)), (0, oO40)]
def oH74 (s0 s1 g0 g1 : Int32) (c : Int64) : Hp := [(0, [.int s0, .int s1]), (1, [.ref 2, .ref 3, .ref 4, .int (c.toInt32)]), (0, [.int s0, .int s1]), (0, (oO7 s0 s1)), (0, (oO11 s0 s1)), (0, (oO69 g0 g1)), (0, oO42)]
def oH75 (s0 s1 g0 g1 : Int32) (c : Int64) : Hp := [(0, [.int s0, .int s1]), (1, [.ref 2, .ref 3, .ref 4, .int (c.toInt32)]), (0, [.int s0, .int s1]), (0, (oO7 s0 s1)), (0, (oO11 s0 s1)), (0, (oO69 g0 g1)), (0, oO44)]
def oH76 (s0 s1 g0 g1 : Int32) (c : Int64) : Hp := [(0, [.int s0, .int s1]), (1, [.ref 2, .ref 3, .ref 4, .int (c.toInt32)]), (0, [.int s0, .int s1]), (0, (oO7 s0 s1)), (0, (oO11 s0 s1)), (0, (oO69 g0 g1)), (0, oO46)]
def oH77 (s0 s1 g0 g1 : Int32) (c : Int64) : Hp := [(0, [.int s0, .int s1]), (1, [.ref 2, .ref 3, .ref 4, .int (c.toInt32)]), (0, [.int s0, .int s1]), (0, (oO7 s0 s1)), (0, (oO11 s0 s1)), (0, (oO69 g0 g1)), (0, oO48)]
def oH78 (s0 s1 g0 g1 : Int32) (c : Int64) : Hp := [(0, [.int s0, .int s1]), (1, [.ref 2, .ref 3, .ref 4, .int (c.toInt32)]), (0, [.int s0, .int s1]), (0, (oO7 s0 s1)), (0, (oO11 s0 s1)), (0, (oO69 g0 g1)), (0, oO50)]
def oH79 (s0 s1 g0 g1 : Int32) (c : Int64) : Hp := [(0, [.int s0, .int s1]), (1, [.ref 2, .ref 3, .ref 4, .int (c.toInt32)]), (0, [.int s0, .int s1]), (0, (oO7 s0 s1)), (0, (oO11 s0 s1)), (0, (oO69 g0 g1)), (0, (oO52 s1 g0 g1))]
def oO80 (g0 : Int32) : List Value := [.int (100 : Int32), .int (101 : Int32), .int (102 : Int32), .int g0, .int (104 : Int32), .int (105 : Int32), .int (106 : Int32), .int (107 : Int32)]
def oH81 (s0 s1 g0 : Int32) (c : Int64) : Hp := [(0, [.int s0, .int s1]), (1, [.ref 2, .ref 3, .ref 4, .int (c.toInt32)]), (0, [.int s0, .int s1]), (0, (oO7 s0 s1)), (0, (oO11 s0 s1)), (0, (oO80 g0))]
def oO82 (g0 g1 : Int32) : List Value := [.int (100 : Int32), .int (101 : Int32), .int (102 : Int32), .int g0, .int g1, .int (105 : Int32), .int (106 : Int32), .int (107 : Int32)]
def oH83 (s0 s1 g0 g1 : Int32) (c : Int64) : Hp := [(0, [.int s0, .int s1]), (1, [.ref 2, .ref 3, .ref 4, .int (c.toInt32)]), (0, [.int s0, .int s1]), (0, (oO7 s0 s1)), (0, (oO11 s0 s1)), (0, (oO82 g0 g1))]
def oH84 (s0 s1 g0 g1 : Int32) (c : Int64) : Hp := [(0, [.int s0, .int s1]), (1, [.ref 2, .ref 3, .ref 4, .int (c.toInt32)]), (0, [.int s0, .int s1]), (0, (oO7 s0 s1)), (0, (oO11 s0 s1)), (0, (oO82 g0 g1)), (0, oO36)]
def oH85 (s0 s1 g0 g1 : Int32) (c : Int64) : Hp := [(0, [.int s0, .int s1]), (1, [.ref 2, .ref 3, .ref 4, .int (c.toInt32)]), (0, [.int s0, .int s1]), (0, (oO7 s0 s1)), (0, (oO11 s0 s1)), (0, (oO82 g0 g1)), (0, oO38)]
def oH86 (s0 s1 g0 g1 : Int32) (c : Int64) : Hp := [(0, [.int s0, .int s1]), (1, [.ref 2, .ref 3, .ref 4, .int (c.toInt32)]), (0, [.int s0, .int s1]), (0, (oO7 s0 s1)), (0, (oO11 s0 s1)), (0, (oO82 g0 g1)), (0, oO40)]
def oH87 (s0 s1 g0 g1 : Int32) (c : Int64) : Hp := [(0, [.int s0, .int s1]), (1, [.ref 2, .ref 3, .ref 4, .int (c.toInt32)]), (0, [.int s0, .int s1]), (0, (oO7 s0 s1)), (0, (oO11 s0 s1)), (0, (oO82 g0 g1)), (0, oO42)]
def oH88 (s0 s1 g0 g1 : Int32) (c : Int64) : Hp := [(0, [.int s0, .int s1]), (1, [.ref 2, .ref 3, .ref 4, .int (c.toInt32)]), (0, [.int s0, .int s1]), (0, (oO7 s0 s1)), (0, (oO11 s0 s1)), (0, (oO82 g0 g1)), (0, oO44)]
def oH89 (s0 s1 g0 g1 : Int32) (c : Int64) : Hp := [(0, [.int s0, .int s1]), (1, [.ref 2, .ref 3, .ref 4, .int (c.toInt32)]), (0, [.int s0, .int s1]), (0, (oO7 s0 s1)), (0, (oO11 s0 s1)), (0, (oO82 g0 g1)), (0, oO46)]
def oH90 (s0 s1 g0 g1 : Int32) (c : Int64) : Hp := [(0, [.int s0, .int s1]), (1, [.ref 2, .ref 3, .ref 4, .int (c.toInt32)]), (0, [.int s0, .int s1]), (0, (oO7 s0 s1)), (0, (oO11 s0 s1)), (0, (oO82 g0 g1)), (0, oO48)]
def oH91 (s0 s1 g0 g1 : Int32) (c : Int64) : Hp := [(0, [.int s0, .int s1]), (1, [.ref 2, .ref 3, .ref 4, .int (c.toInt32)]), (0, [.int s0, .int s1]), (0, (oO7 s0 s1)), (0, (oO11 s0 s1)), (0, (oO82 g0 g1)), (0, oO50)]
def oH92 (s0 s1 g0 g1 : Int32) (c : Int64) : Hp := [(0, [.int s0, .int s1]), (1, [.ref 2, .ref 3, .ref 4, .int (c.toInt32)]), (0, [.int s0, .int s1]), (0, (oO7 s0 s1)), (0, (oO11 s0 s1)), (0, (oO82 g0 g1)), (0, (oO52 s1 g0 g1))]
def oH93 (s0 s1 s2 : Int32) : Hp := [(0, [.int s0, .int s1, .int s2])]
def oH94 (s0 s1 s2 : Int32) : Hp := [(0, [.int s0, .int s1, .int s2]), (1, [.null, .null, .null, .int (0 : Int32)])]
def oH95 (s0 s1 s2 : Int32) : Hp := [(0, [.int s0, .int s1, .int s2]), (1, [.null, .null, .null, .int (0 : Int32)]), (0, [.int s0, .int s1, .int s2])]
def oH96 (s0 s1 s2 : Int32) : Hp := [(0, [.int s0, .int s1, .int s2]), (1, [.ref 2, .null, .null, .int (0 : Int32)]), (0, [.int s0, .int s1, .int s2])]
def oO97  : List Value := [.int (0 : Int32), .int (0 : Int32), .int (0 : Int32), .int (0 : Int32)]
def oH98 (s0 s1 s2 : Int32) : Hp := [(0, [.int s0, .int s1, .int s2]), (1, [.ref 2, .null, .null, .int (0 : Int32)]), (0, [.int s0, .int s1, .int s2]), (0, oO97)]
def oH99 (s0 s1 s2 : Int32) : Hp := [(0, [.int s0, .int s1, .int s2]), (1, [.ref 2, .ref 3, .null, .int (0 : Int32)]), (0, [.int s0, .int s1, .int s2]), (0, oO97)]
def oO100 (s0 : Int32) : List Value := [.int (0 : Int32), .int ((0 : Int32) + s0), .int (0 : Int32), .int (0 : Int32)]
def oH101 (s0 s1 s2 : Int32) : Hp := [(0, [.int s0, .int s1, .int s2]), (1, [.ref 2, .ref 3, .null, .int (0 : Int32)]), (0, [.int s0, .int s1, .int s2]), (0, (oO100 s0))]
def oO102 (s0 s1 : Int32) : List Value := [.int (0 : Int32), .int ((0 : Int32) + s0), .int (((0 : Int32) + s0) + s1), .int (0 : Int32)]
def oH103 (s0 s1 s2 : Int32) : Hp := [(0, [.int s0, .int s1, .int s2]), (1, [.ref 2, .ref 3, .null, .int (0 : Int32)]), (0, [.int s0, .int s1, .int s2]), (0, (oO102 s0 s1))]
def oO104 (s0 s1 s2 : Int32) : List Value := [.int (0 : Int32), .int ((0 : Int32) + s0), .int (((0 : Int32) + s0) + s1), .int ((((0 : Int32) + s0) + s1) + s2)]
def oH105 (s0 s1 s2 : Int32) : Hp := [(0, [.int s0, .int s1, .int s2]), (1, [.ref 2, .ref 3, .null, .int (0 : Int32)]), (0, [.int s0, .int s1, .int s2]), (0, (oO104 s0 s1 s2))]
def oH106 (s0 s1 s2 : Int32) : Hp := [(0, [.int s0, .int s1, .int s2]), (1, [.ref 2, .ref 3, .null, .int (0 : Int32)]), (0, [.int s0, .int s1, .int s2]), (0, (oO104 s0 s1 s2)), (0, [.int (0 : Int32), .int (0 : Int32), .int (0 : Int32)])]
def oH107 (s0 s1 s2 : Int32) : Hp := [(0, [.int s0, .int s1, .int s2]), (1, [.ref 2, .ref 3, .ref 4, .int (0 : Int32)]), (0, [.int s0, .int s1, .int s2]), (0, (oO104 s0 s1 s2)), (0, [.int (0 : Int32), .int (0 : Int32), .int (0 : Int32)])]
def oO108 (s0 s1 s2 : Int32) : List Value := [.int (0 : Int32), .int ((0 : Int32) + (s0 * (((((0 : Int32) + s0) + s1) + s2) - ((0 : Int32) + s0)))), .int (0 : Int32)]
def oH109 (s0 s1 s2 : Int32) : Hp := [(0, [.int s0, .int s1, .int s2]), (1, [.ref 2, .ref 3, .ref 4, .int (0 : Int32)]), (0, [.int s0, .int s1, .int s2]), (0, (oO104 s0 s1 s2)), (0, (oO108 s0 s1 s2))]
def oO110 (s0 s1 s2 : Int32) : List Value := [.int (0 : Int32), .int ((0 : Int32) + (s0 * (((((0 : Int32) + s0) + s1) + s2) - ((0 : Int32) + s0)))), .int (((0 : Int32) + (s0 * (((((0 : Int32) + s0) + s1) + s2) - ((0 : Int32) + s0)))) + (s1 * (((((0 : Int32) + s0) + s1) + s2) - (((0 : Int32) + s0) + s1))))]
def oH111 (s0 s1 s2 : Int32) : Hp := [(0, [.int s0, .int s1, .int s2]), (1, [.ref 2, .ref 3, .ref 4, .int (0 : Int32)]), (0, [.int s0, .int s1, .int s2]), (0, (oO104 s0 s1 s2)), (0, (oO110 s0 s1 s2))]
def oH112 (s0 s1 s2 : Int32) (c : Int64) : Hp := [(0, [.int s0, .int s1, .int s2]), (1, [.ref 2, .ref 3, .ref 4, .int (c.toInt32)]), (0, [.int s0, .int s1, .int s2]), (0, (oO104 s0 s1 s2)), (0, (oO110 s0 s1 s2))]
def oH113 (s0 s1 s2 : Int32) (c : Int64) : Hp := [(0, [.int s0, .int s1, .int s2]), (1, [.ref 2, .ref 3, .ref 4, .int (c.toInt32)]), (0, [.int s0, .int s1, .int s2]), (0, (oO104 s0 s1 s2)), (0, (oO110 s0 s1 s2)), (0, oO14)]
def oH114 (s0 s1 s2 : Int32) (c : Int64) : Hp := [(0, [.int s0, .int s1, .int s2]), (1, [.ref 2, .ref 3, .ref 4, .int (c.toInt32)]), (0, [.int s0, .int s1, .int s2]), (0, (oO104 s0 s1 s2)), (0, (oO110 s0 s1 s2)), (0, oO16)]
def oH115 (s0 s1 s2 : Int32) (c : Int64) : Hp := [(0, [.int s0, .int s1, .int s2]), (1, [.ref 2, .ref 3, .ref 4, .int (c.toInt32)]), (0, [.int s0, .int s1, .int s2]), (0, (oO104 s0 s1 s2)), (0, (oO110 s0 s1 s2)), (0, oO18)]
def oH116 (s0 s1 s2 : Int32) (c : Int64) : Hp := [(0, [.int s0, .int s1, .int s2]), (1, [.ref 2, .ref 3, .ref 4, .int (c.toInt32)]), (0, [.int s0, .int s1, .int s2]), (0, (oO104 s0 s1 s2)), (0, (oO110 s0 s1 s2)), (0, oO20)]
def oH117 (s0 s1 s2 : Int32) (c : Int64) : Hp := [(0, [.int s0, .int s1, .int s2]), (1, [.ref 2, .ref 3, .ref 4, .int (c.toInt32)]), (0, [.int s0, .int s1, .int s2]), (0, (oO104 s0 s1 s2)), (0, (oO110 s0 s1 s2)), (0, oO22)]
def oH118 (s0 s1 s2 : Int32) (c : Int64) : Hp := [(0, [.int s0, .int s1, .int s2]), (1, [.ref 2, .ref 3, .ref 4, .int (c.toInt32)]), (0, [.int s0, .int s1, .int s2]), (0, (oO104 s0 s1 s2)), (0, (oO110 s0 s1 s2)), (0, oO24)]
def oH119 (s0 s1 s2 : Int32) (c : Int64) : Hp := [(0, [.int s0, .int s1, .int s2]), (1, [.ref 2, .ref 3, .ref 4, .int (c.toInt32)]), (0, [.int s0, .int s1, .int s2]), (0, (oO104 s0 s1 s2)), (0, (oO110 s0 s1 s2)), (0, oO26)]
def oH120 (s0 s1 s2 : Int32) (c : Int64) : Hp := [(0, [.int s0, .int s1, .int s2]), (1, [.ref 2, .ref 3, .ref 4, .int (c.toInt32)]), (0, [.int s0, .int s1, .int s2]), (0, (oO104 s0 s1 s2)), (0, (oO110 s0 s1 s2)), (0, oO28)]
def oH121 (s0 s1 s2 : Int32) (c : Int64) : Hp := [(0, [.int s0, .int s1, .int s2]), (1, [.ref 2, .ref 3, .ref 4, .int (c.toInt32)]), (0, [.int s0, .int s1, .int s2]), (0, (oO104 s0 s1 s2)), (0, (oO110 s0 s1 s2)), (0, oO30)]
def oH122 (s0 s1 s2 g0 : Int32) (c : Int64) : Hp := [(0, [.int s0, .int s1, .int s2]), (1, [.ref 2, .ref 3, .ref 4, .int (c.toInt32)]), (0, [.int s0, .int s1, .int s2]), (0, (oO104 s0 s1 s2)), (0, (oO110 s0 s1 s2)), (0, (oO32 g0))]
def oH123 (s0 s1 s2 g0 g1 : Int32) (c : Int64) : Hp := [(0, [.int s0, .int s1, .int s2]), (1, [.ref 2, .ref 3, .ref 4, .int (c.toInt32)]), (0, [.int s0, .int s1, .int s2]), (0, (oO104 s0 s1 s2)), (0, (oO110 s0 s1 s2)), (0, (oO34 g0 g1))]
def oO124 (g0 g1 g2 : Int32) : List Value := [.int g0, .int g1, .int g2, .int (103 : Int32), .int (104 : Int32), .int (105 : Int32), .int (106 : Int32), .int (107 : Int32)]
def oH125 (s0 s1 s2 g0 g1 g2 : Int32) (c : Int64) : Hp := [(0, [.int s0, .int s1, .int s2]), (1, [.ref 2, .ref 3, .ref 4, .int (c.toInt32)]), (0, [.int s0, .int s1, .int s2]), (0, (oO104 s0 s1 s2)), (0, (oO110 s0 s1 s2)), (0, (oO124 g0 g1 g2))]
def oH126 (s0 s1 s2 g0 g1 g2 : Int32) (c : Int64) : Hp := [(0, [.int s0, .int s1, .int s2]), (1, [.ref 2, .ref 3, .ref 4, .int (c.toInt32)]), (0, [.int s0, .int s1, .int s2]), (0, (oO104 s0 s1 s2)), (0, (oO110 s0 s1 s2)), (0, (oO124 g0 g1 g2)), (0, oO36)]
def oH127 (s0 s1 s2 g0 g1 g2 : Int32) (c : Int64) : Hp := [(0, [.int s0, .int s1, .int s2]), (1, [.ref 2, .ref 3, .ref 4, .int (c.toInt32)]), (0, [.int s0, .int s1, .int s2]), (0, (oO104 s0 s1 s2)), (0, (oO110 s0 s1 s2)), (0, (oO124 g0 g1 g2)), (0, oO38)]
def oH128 (s0 s1 s2 g0 g1 g2 : Int32) (c : Int64) : Hp := [(0, [.int s0, .int s1, .int s2]), (1, [.ref 2, .ref 3, .ref 4, .int (c.toInt32)]), (0, [.int s0, .int s1, .int s2]), (0, (oO104 s0 s1 s2)), (0, (oO110 s0 s1 s2)), (0, (oO124 g0 g1 g2)), (0, oO40)]
def oH129 (s0 s1 s2 g0 g1 g2 : Int32) (c : Int64) : Hp := [(0, [.int s0, .int s1, .int s2]), (1, [.ref 2, .ref 3, .ref 4, .int (c.toInt32)]), (0, [.int s0, .int s1, .int s2]), (0, (oO104 s0 s1 s2)), (0, (oO110 s0 s1 s2)), (0, (oO124 g0 g1 g2)), (0, oO42)]
def oH130 (s0 s1 s2 g0 g1 g2 : Int32) (c : Int64) : Hp := [(0, [.int s0, .int s1, .int s2]), (1, [.ref 2, .ref 3, .ref 4, .int (c.toInt32)]), (0, [.int s0, .int s1, .int s2]), (0, (oO104 s0 s1 s2)), (0, (oO110 s0 s1 s2)), (0, (oO124 g0 g1 g2)), (0, oO44)]
def oH131 (s0 s1 s2 g0 g1 g2 : Int32) (c : Int64) : Hp := [(0, [.int s0, .int s1, .int s2]), (1, [.ref 2, .ref 3, .ref 4, .int (c.toInt32)]), (0, [.int s0, .int s1, .int s2]), (0, (oO104 s0 s1 s2)), (0, (oO110 s0 s1 s2)), (0, (oO124 g0 g1 g2)), (0, oO46)]
def oH132 (s0 s1 s2 g0 g1 g2 : Int32) (c : Int64) : Hp := [(0, [.int s0, .int s1, .int s2]), (1, [.ref 2, .ref 3, .ref 4, .int (c.toInt32)]), (0, [.int s0, .int s1, .int s2]), (0, (oO104 s0 s1 s2)), (0, (oO110 s0 s1 s2)), (0, (oO124 g0 g1 g2)), (0, oO48)]
def oH133 (s0 s1 s2 g0 g1 g2 : Int32) (c : Int64) : Hp := [(0, [.int s0, .int s1, .int s2]), (1, [.ref 2, .ref 3, .ref 4, .int (c.toInt32)]), (0, [.int s0, .int s1, .int s2]), (0, (oO104 s0 s1 s2)), (0, (oO110 s0 s1 s2)), (0, (oO124 g0 g1 g2)), (0, oO50)]
def oH134 (s0 s1 s2 g0 g1 g2 : Int32) (c : Int64) : Hp := [(0, [.int s0, .int s1, .int s2]), (1, [.ref 2, .ref 3, .ref 4, .int (c.toInt32)]), (0, [.int s0, .int s1, .int s2]), (0, (oO104 s0 s1 s2)), (0, (oO110 s0 s1 s2)), (0, (oO124 g0 g1 g2)), (0, (oO52 s1 g0 g1))]
def oO135 (s0 s1 s2 g0 g1 g2 : Int32) : List Value := [.int (((0 : Int32) + (g0 * s1)) + g1), .int ((((0 : Int32) + (s0 * s1)) + (g0 * s2)) + g2), .int (-1 : Int32), .int (-1 : Int32), .int (-1 : Int32), .int (-1 : Int32), .int (-1 : Int32)]
def oH136 (s0 s1 s2 g0 g1 g2 : Int32) (c : Int64) : Hp := [(0, [.int s0, .int s1, .int s2]), (1, [.ref 2, .ref 3, .ref 4, .int (c.toInt32)]), (0, [.int s0, .int s1, .int s2]), (0, (oO104 s0 s1 s2)), (0, (oO110 s0 s1 s2)), (0, (oO124 g0 g1 g2)), (0, (oO135 s0 s1 s2 g0 g1 g2))]
def oO137 (s0 s1 s2 g0 g1 g2 : Int32) : List Value := [.int (((0 : Int32) + (g0 * s1)) + g1), .int ((((0 : Int32) + (s0 * s1)) + (g0 * s2)) + g2), .int ((((0 : Int32) + (s0 * (((((0 : Int32) + s0) + s1) + s2) - ((0 : Int32) + s0)))) + (g1 * s2)) + g2), .int (-1 : Int32), .int (-1 : Int32), .int (-1 : Int32), .int (-1 : Int32)]
def oH138 (s0 s1 s2 g0 g1 g2 : Int32) (c : Int64) : Hp := [(0, [.int s0, .int s1, .int s2]), (1, [.ref 2, .ref 3, .ref 4, .int (c.toInt32)]), (0, [.int s0, .int s1, .int s2]), (0, (oO104 s0 s1 s2)), (0, (oO110 s0 s1 s2)), (0, (oO124 g0 g1 g2)), (0, (oO137 s0 s1 s2 g0 g1 g2))]
def oH139 (s0 s1 s2 g0 : Int32) (c : Int64) : Hp := [(0, [.int s0, .int s1, .int s2]), (1, [.ref 2, .ref 3, .ref 4, .int (c.toInt32)]), (0, [.int s0, .int s1, .int s2]), (0, (oO104 s0 s1 s2)), (0, (oO110 s0 s1 s2)), (0, (oO54 g0))]
def oH140 (s0 s1 s2 g0 g1 : Int32) (c : Int64) : Hp := [(0, [.int s0, .int s1, .int s2]), (1, [.ref 2, .ref 3, .ref 4, .int (c.toInt32)]), (0, [.int s0, .int s1, .int s2]), (0, (oO104 s0 s1 s2)), (0, (oO110 s0 s1 s2)), (0, (oO56 g0 g1))]
def oO141 (g0 g1 g2 : Int32) : List Value := [.int (100 : Int32), .int g0, .int g1, .int g2, .int (104 : Int32), .int (105 : Int32), .int (106 : Int32), .int (107 : Int32)]
def oH142 (s0 s1 s2 g0 g1 g2 : Int32) (c : Int64) : Hp := [(0, [.int s0, .int s1, .int s2]), (1, [.ref 2, .ref 3, .ref 4, .int (c.toInt32)]), (0, [.int s0, .int s1, .int s2]), (0, (oO104 s0 s1 s2)), (0, (oO110 s0 s1 s2)), (0, (oO141 g0 g1 g2))]
def oH143 (s0 s1 s2 g0 g1 g2 : Int32) (c : Int64) : Hp := [(0, [.int s0, .int s1, .int s2]), (1, [.ref 2, .ref 3, .ref 4, .int (c.toInt32)]), (0, [.int s0, .int s1, .int s2]), (0, (oO104 s0 s1 s2)), (0, (oO110 s0 s1 s2)), (0, (oO141 g0 g1 g2)), (0, oO36)]
def oH144 (s0 s1 s2 g0 g1 g2 : Int32) (c : Int64) : Hp := [(0, [.int s0, .int s1, .int s2]), (1, [.ref 2, .ref 3, .ref 4, .int (c.toInt32)]), (0, [.int s0, .int s1, .int s2]), (0, (oO104 s0 s1 s2)), (0, (oO110 s0 s1 s2)), (0, (oO141 g0 g1 g2)), (0, oO38)]
def oH145 (s0 s1 s2 g0 g1 g2 : Int32) (c : Int64) : Hp := [(0, [.int s0, .int s1, .int s2]), (1, [.ref 2, .ref 3, .ref 4, .int (c.toInt32)]), (0, [.int s0, .int s1, .int s2]), (0, (oO104 s0 s1 s2)), (0, (oO110 s0 s1 s2)), (0, (oO141 g0 g1 g2)), (0, oO40)]
def oH146 (s0 s1 s2 g0 g1 g2 : Int32) (c : Int64) : Hp := [(0, [.int s0, .int s1, .int s2]), (1, [.ref 2, .ref 3, .ref 4, .int (c.toInt32)]), (0, [.int s0, .int s1, .int s2]), (0, (oO104 s0 s1 s2)), (0, (oO110 s0 s1 s2)), (0, (oO141 g0 g1 g2)), (0, oO42)]
def oH147 (s0 s1 s2 g0 g1 g2 : Int32) (c : Int64) : Hp := [(0, [.int s0, .int s1, .int s2]), (1, [.ref 2, .ref 3, .ref 4, .int (c.toInt32)]), (0, [.int s0, .int s1, .int s2]), (0, (oO104 s0 s1 s2)), (0, (oO110 s0 s1 s2)), (0, (oO141 g0 g1 g2)), (0, oO44)]
def oH148 (s0 s1 s2 g0 g1 g2 : Int32) (c : Int64) : Hp := [(0, [.int s0, .int s1, .int s2]), (1, [.ref 2, .ref 3, .ref 4, .int (c.toInt32)]), (0, [.int s0, .int s1, .int s2]), (0, (oO104 s0 s1 s2)), (0, (oO110 s0 s1 s2)), (0, (oO141 g0 g1 g2)), (0, oO46)]
def oH149 (s0 s1 s2 g0 g1 g2 : Int32) (c : Int64) : Hp := [(0, [.int s0, .int s1, .int s2]), (1, [.ref 2, .ref 3, .ref 4, .int (c.toInt32)]), (0, [.int s0, .int s1, .int s2]), (0, (oO104 s0 s1 s2)), (0, (oO110 s0 s1 s2)), (0, (oO141 g0 g1 g2)), (0, oO48)]
def oH150 (s0 s1 s2 g0 g1 g2 : Int32) (c : Int64) : Hp := [(0, [.int s0, .int s1, .int s2]), (1, [.ref 2, .ref 3, .ref 4, .int (c.toInt32)]), (0, [.int s0, .int s1, .int s2]), (0, (oO104 s0 s1 s2)), (0, (oO110 s0 s1 s2)), (0, (oO141 g0 g1 g2)), (0, oO50)]
def oH151 (s0 s1 s2 g0 g1 g2 : Int32) (c : Int64) : Hp := [(0, [.int s0, .int s1, .int s2]), (1, [.ref 2, .ref 3, .ref 4, .int (c.toInt32)]), (0, [.int s0, .int s1, .int s2]), (0, (oO104 s0 s1 s2)), (0, (oO110 s0 s1 s2)), (0, (oO141 g0 g1 g2)), (0, (oO52 s1 g0 g1))]
def oH152 (s0 s1 s2 g0 g1 g2 : Int32) (c : Int64) : Hp := [(0, [.int s0, .int s1, .int s2]), (1, [.ref 2, .ref 3, .ref 4, .int (c.toInt32)]), (0, [.int s0, .int s1, .int s2]), (0, (oO104 s0 s1 s2)), (0, (oO110 s0 s1 s2)), (0, (oO141 g0 g1 g2)), (0, (oO135 s0 s1 s2 g0 g1 g2))]
def oH153 (s0 s1 s2 g0 g1 g2 : Int32) (c : Int64) : Hp := [(0, [.int s0, .int s1, .int s2]), (1, [.ref 2, .ref 3, .ref 4, .int (c.toInt32)]), (0, [.int s0, .int s1, .int s2]), (0, (oO104 s0 s1 s2)), (0, (oO110 s0 s1 s2)), (0, (oO141 g0 g1 g2)), (0, (oO137 s0 s1 s2 g0 g1 g2))]
def oH154 (s0 s1 s2 g0 : Int32) (c : Int64) : Hp := [(0, [.int s0, .int s1, .int s2]), (1, [.ref 2, .ref 3, .ref 4, .int (c.toInt32)]), (0, [.int s0, .int s1, .int s2]), (0, (oO104 s0 s1 s2)), (0, (oO110 s0 s1 s2)), (0, (oO67 g0))]
def oH155 (s0 s1 s2 g0 g1 : Int32) (c : Int64) : Hp := [(0, [.int s0, .int s1, .int s2]), (1, [.ref 2, .ref 3, .ref 4, .int (c.toInt32)]), (0, [.int s0, .int s1, .int s2]), (0, (oO104 s0 s1 s2)), (0, (oO110 s0 s1 s2)), (0, (oO69 g0 g1))]
def oO156 (g0 g1 g2 : Int32) : List Value := [.int (100 : Int32), .int (101 : Int32), .int g0, .int g1, .int g2, .int (105 : Int32), .int (106 : Int32), .int (107 : Int32)]
def oH157 (s0 s1 s2 g0 g1 g2 : Int32) (c : Int64) : Hp := [(0, [.int s0, .int s1, .int s2]), (1, [.ref 2, .ref 3, .ref 4, .int (c.toInt32)]), (0, [.int s0, .int s1, .int s2]), (0, (oO104 s0 s1 s2)), (0, (oO110 s0 s1 s2)), (0, (oO156 g0 g1 g2))]
def oH158 (s0 s1 s2 g0 g1 g2 : Int32) (c : Int64) : Hp := [(0, [.int s0, .int s1, .int s2]), (1, [.ref 2, .ref 3, .ref 4, .int (c.toInt32)]), (0, [.int s0, .int s1, .int s2]), (0, (oO104 s0 s1 s2)), (0, (oO110 s0 s1 s2)), (0, (oO156 g0 g1 g2)), (0, oO36)]
def oH159 (s0 s1 s2 g0 g1 g2 : Int32) (c : Int64) : Hp := [(0, [.int s0, .int s1, .int s2]), (1, [.ref 2, .ref 3, .ref 4, .int (c.toInt32)]), (0, [.int s0, .int s1, .int s2]), (0, (oO104 s0 s1 s2)), (0, (oO110 s0 s1 s2)), (0, (oO156 g0 g1 g2)), (0, oO38)]
def oH160 (s0 s1 s2 g0 g1 g2 : Int32) (c : Int64) : Hp := [(0, [.int s0, .int s1, .int s2]), (1, [.ref 2, .ref 3, .ref 4, .int (c.toInt32)]), (0, [.int s0, .int s1, .int s2]), (0, (oO104 s0 s1 s2)), (0, (oO110 s0 s1 s2)), (0, (oO156 g0 g1 g2)), (0, oO40)]
def oH161 (s0 s1 s2 g0 g1 g2 : Int32) (c : Int64) : Hp := [(0, [.int s0, .int s1, .int s2]), (1, [.ref 2, .ref 3, .ref 4, .int (c.toInt32)]), (0, [.int s0, .int s1, .int s2]), (0, (oO104 s0 s1 s2)), (0, (oO110 s0 s1 s2)), (0, (oO156 g0 g1 g2)), (0, oO42)]
def oH162 (s0 s1 s2 g0 g1 g2 : Int32) (c : Int64) : Hp := [(0, [.int s0, .int s1, .int s2]), (1, [.ref 2, .ref 3, .ref 4, .int (c.toInt32)]), (0, [.int s0, .int s1, .int s2]), (0, (oO104 s0 s1 s2)), (0, (oO110 s0 s1 s2)), (0, (oO156 g0 g1 g2)), (0, oO44)]
def oH163 (s0 s1 s2 g0 g1 g2 : Int32) (c : Int64) : Hp := [(0, [.int s0, .int s1, .int s2]), (1, [.ref 2, .ref 3, .ref 4, .int (c.toInt32)]), (0, [.int s0, .int s1, .int s2]), (0, (oO104 s0 s1 s2)), (0, (oO110 s0 s1 s2)), (0, (oO156 g0 g1 g2)), (0, oO46)]
def oH164 (s0 s1 s2 g0 g1 g2 : Int32) (c : Int64) : Hp := [(0, [.int s0, .int s1, .int s2]), (1, [.ref 2, .ref 3, .ref 4, .int (c.toInt32)]), (0, [.int s0, .int s1, .int s2]), (0, (oO104 s0 s1 s2)), (0, (oO110 s0 s1 s2)), (0, (oO156 g0 g1 g2)), (0, oO48)]
def oH165 (s0 s1 s2 g0 g1 g2 : Int32) (c : Int64) : Hp := [(0, [.int s0, .int s1, .int s2]), (1, [.ref 2, .ref 3, .ref 4, .int (c.toInt32)]), (0, [.int s0, .int s1, .int s2]), (0, (oO104 s0 s1 s2)), (0, (oO110 s0 s1 s2)), (0, (oO156 g0 g1 g2)), (0, oO50)]
def oH166 (s0 s1 s2 g0 g1 g2 : Int32) (c : Int64) : Hp := [(0, [.int s0, .int s1, .int s2]), (1, [.ref 2, .ref 3, .ref 4, .int (c.toInt32)]), (0, [.int s0, .int s1, .int s2]), (0, (oO104 s0 s1 s2)), (0, (oO110 s0 s1 s2)), (0, (oO156 g0 g1 g2)), (0, (oO52 s1 g0 g1))]
def oH167 (s0 s1 s2 g0 g1 g2 : Int32) (c : Int64) : Hp := [(0, [.int s0, .int s1, .int s2]), (1, [.ref 2, .ref 3, .ref 4, .int (c.toInt32)]), (0, [.int s0, .int s1, .int s2]), (0, (oO104 s0 s1 s2)), (0, (oO110 s0 s1 s2)), (0, (oO156 g0 g1 g2)), (0, (oO135 s0 s1 s2 g0 g1 g2))]
def oH168 (s0 s1 s2 g0 g1 g2 : Int32) (c : Int64) : Hp := [(0, [.int s0, .int s1, .int s2]), (1, [.ref 2, .ref 3, .ref 4, .int (c.toInt32)]), (0, [.int s0, .int s1, .int s2]), (0, (oO104 s0 s1 s2)), (0, (oO110 s0 s1 s2)), (0, (oO156 g0 g1 g2)), (0, (oO137 s0 s1 s2 g0 g1 g2))]
def oH169 (s0 s1 s2 g0 : Int32) (c : Int64) : Hp := [(0, [.int s0, .int s1, .int s2]), (1, [.ref 2, .ref 3, .ref 4, .int (c.toInt32)]), (0, [.int s0, .int s1, .int s2]), (0, (oO104 s0 s1 s2)), (0, (oO110 s0 s1 s2)), (0, (oO80 g0))]
def oH170 (s0 s1 s2 g0 g1 : Int32) (c : Int64) : Hp := [(0, [.int s0, .int s1, .int s2]), (1, [.ref 2, .ref 3, .ref 4, .int (c.toInt32)]), (0, [.int s0, .int s1, .int s2]), (0, (oO104 s0 s1 s2)), (0, (oO110 s0 s1 s2)), (0, (oO82 g0 g1))]
def oO171 (g0 g1 g2 : Int32) : List Value := [.int (100 : Int32), .int (101 : Int32), .int (102 : Int32), .int g0, .int g1, .int g2, .int (106 : Int32), .int (107 : Int32)]
def oH172 (s0 s1 s2 g0 g1 g2 : Int32) (c : Int64) : Hp := [(0, [.int s0, .int s1, .int s2]), (1, [.ref 2, .ref 3, .ref 4, .int (c.toInt32)]), (0, [.int s0, .int s1, .int s2]), (0, (oO104 s0 s1 s2)), (0, (oO110 s0 s1 s2)), (0, (oO171 g0 g1 g2))]
def oH173 (s0 s1 s2 g0 g1 g2 : Int32) (c : Int64) : Hp := [(0, [.int s0, .int s1, .int s2]), (1, [.ref 2, .ref 3, .ref 4, .int (c.toInt32)]), (0, [.int s0, .int s1, .int s2]), (0, (oO104 s0 s1 s2)), (0, (oO110 s0 s1 s2)), (0, (oO171 g0 g1 g2)), (0, oO36)]
def oH174 (s0 s1 s2 g0 g1 g2 : Int32) (c : Int64) : Hp := [(0, [.int s0, .int s1, .int s2]), (1, [.ref 2, .ref 3, .ref 4, .int (c.toInt32)]), (0, [.int s0, .int s1, .int s2]), (0, (oO104 s0 s1 s2)), (0, (oO110 s0 s1 s2)), (0, (oO171 g0 g1 g2)), (0, oO38)]
def oH175 (s0 s1 s2 g0 g1 g2 : Int32) (c : Int64) : Hp := [(0, [.int s0, .int s1, .int s2]), (1, [.ref 2, .ref 3, .ref 4, .int (c.toInt32)]), (0, [.int s0, .int s1, .int s2]), (0, (oO104 s0 s1 s2)), (0, (oO110 s0 s1 s2)), (0, (oO171 g0 g1 g2)), (0, oO40)]
def oH176 (s0 s1 s2 g0 g1 g2 : Int32) (c : Int64) : Hp := [(0, [.int s0, .int s1, .int s2]), (1, [.ref 2, .ref 3, .ref 4, .int (c.toInt32)]), (0, [.int s0, .int s1, .int s2]), (0, (oO104 s0 s1 s2)), (0, (oO110 s0 s1 s2)), (0, (oO171 g0 g1 g2)), (0, oO42)]
def oH177 (s0 s1 s2 g0 g1 g2 : Int32) (c : Int64) : Hp := [(0, [.int s0, .int s1, .int s2]), (1, [.ref 2, .ref 3, .ref 4, .int (c.toInt32)]), (0, [.int s0, .int s1, .int s2]), (0, (oO104 s0 s1 s2)), (0, (oO110 s0 s1 s2)), (0, (oO171 g0 g1 g2)), (0, oO44)]
def oH178 (s0 s1 s2 g0 g1 g2 : Int32) (c : Int64) : Hp := [(0, [.int s0, .int s1, .int s2]), (1, [.ref 2, .ref 3, .ref 4, .int (c.toInt32)]), (0, [.int s0, .int s1, .int s2]), (0, (oO104 s0 s1 s2)), (0, (oO110 s0 s1 s2)), (0, (oO171 g0 g1 g2)), (0, oO46)]
def oH179 (s0 s1 s2 g0 g1 g2 : Int32) (c : Int64) : Hp := [(0, [.int s0, .int s1, .int s2]), (1, [.ref 2, .ref 3, .ref 4, .int (c.toInt32)]), (0, [.int s0, .int s1, .int s2]), (0, (oO104 s0 s1 s2)), (0, (oO110 s0 s1 s2)), (0, (oO171 g0 g1 g2)), (0, oO48)]
def oH180 (s0 s1 s2 g0 g1 g2 : Int32) (c : Int64) : Hp := [(0, [.int s0, .int s1, .int s2]), (1, [.ref 2, .ref 3, .ref 4, .int (c.toInt32)]), (0, [.int s0, .int s1, .int s2]), (0, (oO104 s0 s1 s2)), (0, (oO110 s0 s1 s2)), (0, (oO171 g0 g1 g2)), (0, oO50)]
def oH181 (s0 s1 s2 g0 g1 g2 : Int32) (c : Int64) : Hp := [(0, [.int s0, .int s1, .int s2]), (1, [.ref 2, .ref 3, .ref 4, .int (c.toInt32)]), (0, [.int s0, .int s1, .int s2]), (0, (oO104 s0 s1 s2)), (0, (oO110 s0 s1 s2)), (0, (oO171 g0 g1 g2)), (0, (oO52 s1 g0 g1))]
def oH182 (s0 s1 s2 g0 g1 g2 : Int32) (c : Int64) : Hp := [(0, [.int s0, .int s1, .int s2]), (1, [.ref 2, .ref 3, .ref 4, .int (c.toInt32)]), (0, [.int s0, .int s1, .int s2]), (0, (oO104 s0 s1 s2)), (0, (oO110 s0 s1 s2)), (0, (oO171 g0 g1 g2)), (0, (oO135 s0 s1 s2 g0 g1 g2))]
def oH183 (s0 s1 s2 g0 g1 g2 : Int32) (c : Int64) : Hp := [(0, [.int s0, .int s1, .int s2]), (1, [.ref 2, .ref 3, .ref 4, .int (c.toInt32)]), (0, [.int s0, .int s1, .int s2]), (0, (oO104 s0 s1 s2)), (0, (oO110 s0 s1 s2)), (0, (oO171 g0 g1 g2)), (0, (oO137 s0 s1 s2 g0 g1 g2))]
def oH184 (s0 s1 s2 : Int32) : Hp := [(0, [.int s0, .int s1, .int s2, .int (0 : Int32)])]
def oH185 (s0 s1 s2 s3 : Int32) : Hp := [(0, [.int s0, .int s1, .int s2, .int s3])]
def oH186 (s0 s1 s2 s3 : Int32) : Hp := [(0, [.int s0, .int s1, .int s2, .int s3]), (1, [.null, .null, .null, .int (0 : Int32)])]
def oH187 (s0 s1 s2 s3 : Int32) : Hp := [(0, [.int s0, .int s1, .int s2, .int s3]), (1, [.null, .null, .null, .int (0 : Int32)]), (0, [.int s0, .int s1, .int s2, .int s3])]
def oH188 (s0 s1 s2 s3 : Int32) : Hp := [(0, [.int s0, .int s1, .int s2, .int s3]), (1, [.ref 2, .null, .null, .int (0 : Int32)]), (0, [.int s0, .int s1, .int s2, .int s3])]
def oO189  : List Value := [.int (0 : Int32), .int (0 : Int32), .int (0 : Int32), .int (0 : Int32), .int (0 : Int32)]
def oH190 (s0 s1 s2 s3 : Int32) : Hp := [(0, [.int s0, .int s1, .int s2, .int s3]), (1, [.ref 2, .null, .null, .int (0 : Int32)]), (0, [.int s0, .int s1, .int s2, .int s3]), (0, oO189)]
def oH191 (s0 s1 s2 s3 : Int32) : Hp := [(0, [.int s0, .int s1, .int s2, .int s3]), (1, [.ref 2, .ref 3, .null, .int (0 : Int32)]), (0, [.int s0, .int s1, .int s2, .int s3]), (0, oO189)]
def oO192 (s0 : Int32) : List Value := [.int (0 : Int32), .int ((0 : Int32) + s0), .int (0 : Int32), .int (0 : Int32), .int (0 : Int32)]
def oH193 (s0 s1 s2 s3 : Int32) : Hp := [(0, [.int s0, .int s1, .int s2, .int s3]), (1, [.ref 2, .ref 3, .null, .int (0 : Int32)]), (0, [.int s0, .int s1, .int s2, .int s3]), (0, (oO192 s0))]
def oO194 (s0 s1 : Int32) : List Value := [.int (0 : Int32), .int ((0 : Int32) + s0), .int (((0 : Int32) + s0) + s1), .int (0 : Int32), .int (0 : Int32)]
def oH195 (s0 s1 s2 s3 : Int32) : Hp := [(0, [.int s0, .int s1, .int s2, .int s3]), (1, [.ref 2, .ref 3, .null, .int (0 : Int32)]), (0, [.int s0, .int s1, .int s2, .int s3]), (0, (oO194 s0 s1))]
def oO196 (s0 s1 s2 : Int32) : List Value := [.int (0 : Int32), .int ((0 : Int32) + s0), .int (((0 : Int32) + s0) + s1), .int ((((0 : Int32) + s0) + s1) + s2), .int (0 : Int32)]
def oH197 (s0 s1 s2 s3 : Int32) : Hp := [(0, [.int s0, .int s1, .int s2, .int s3]), (1, [.ref 2, .ref 3, .null, .int (0 : Int32)]), (0, [.int s0, .int s1, .int s2, .int s3]), (0, (oO196 s0 s1 s2))]
def oO198 (s0 s1 s2 s3 : Int32) : List Value := [.int (0 : Int32), .int ((0 : Int32) + s0), .int (((0 : Int32) + s0) + s1), .int ((((0 : Int32) + s0) + s1) + s2), .int (((((0 : Int32) + s0) + s1) + s2) + s3)]
def oH199 (s0 s1 s2 s3 : Int32) : Hp := [(0, [.int s0, .int s1, .int s2, .int s3]), (1, [.ref 2, .ref 3, .null, .int (0 : Int32)]), (0, [.int s0, .int s1, .int s2, .int s3]), (0, (oO198 s0 s1 s2 s3))]
def oH200 (s0 s1 s2 s3 : Int32) : Hp := [(0, [.int s0, .int s1, .int s2, .int s3]), (1, [.ref 2, .ref 3, .null, .int (0 : Int32)]), (0, [.int s0, .int s1, .int s2, .int s3]), (0, (oO198 s0 s1 s2 s3)), (0, oO97)]
def oH201 (s0 s1 s2 s3 : Int32) : Hp := [(0, [.int s0, .int s1, .int s2, .int s3]), (1, [.ref 2, .ref 3, .ref 4, .int (0 : Int32)]), (0, [.int s0, .int s1, .int s2, .int s3]), (0, (oO198 s0 s1 s2 s3)), (0, oO97)]
def oO202 (s0 s1 s2 s3 : Int32) : List Value := [.int (0 : Int32), .int ((0 : Int32) + (s0 * ((((((0 : Int32) + s0) + s1) + s2) + s3) - ((0 : Int32) + s0)))), .int (0 : Int32), .int (0 : Int32)]
def oH203 (s0 s1 s2 s3 : Int32) : Hp := [(0, [.int s0, .int s1, .int s2, .int s3]), (1, [.ref 2, .ref 3, .ref 4, .int (0 : Int32)]), (0, [.int s0, .int s1, .int s2, .int s3]), (0, (oO198 s0 s1 s2 s3)), (0, (oO202 s0 s1 s2 s3))]
def oO204 (s0 s1 s2 s3 : Int32) : List Value := [.int (0 : Int32), .int ((0 : Int32) + (s0 * ((((((0 : Int32) + s0) + s1) + s2) + s3) - ((0 : Int32) + s0)))), .int (((0 : Int32) + (s0 * ((((((0 : Int32) + s0) + s1) + s2) + s3) - ((0 : Int32) + s0)))) + (s1 * ((((((0 : Int32) + s0) + s1) + s2) + s3) - (((0 : Int32) + s0) + s1)))), .int (0 : Int32)]
def oH205 (s0 s1 s2 s3 : Int32) : Hp := [(0, [.int s0, .int s1, .int s2, .int s3]), (1, [.ref 2, .ref 3, .ref 4, .int (0 : Int32)]), (0, [.int s0, .int s1, .int s2, .int s3]), (0, (oO198 s0 s1 s2 s3)), (0, (oO204 s0 s1 s2 s3))]
def oO206 (s0 s1 s2 s3 : Int32) : List Value := [.int (0 : Int32), .int ((0 : Int32) + (s0 * ((((((0 : Int32) + s0) + s1) + s2) + s3) - ((0 : Int32) + s0)))), .int (((0 : Int32) + (s0 * ((((((0 : Int32) + s0) + s1) + s2) + s3) - ((0 : Int32) + s0)))) + (s1 * ((((((0 : Int32) + s0) + s1) + s2) + s3) - (((0 : Int32) + s0) + s1)))), .int ((((0 : Int32) + (s0 * ((((((0 : Int32) + s0) + s1) + s2) + s3) - ((0 : Int32) + s0)))) + (s1 * ((((((0 : Int32) + s0) + s1) + s2) + s3) - (((0 : Int32) + s0) + s1)))) + (s2 * ((((((0 : Int32) + s0) + s1) + s2) + s3) - ((((0 : Int32) + s0) + s1) + s2))))]
def oH207 (s0 s1 s2 s3 : Int32) : Hp := [(0, [.int s0, .int s1, .int s2, .int s3]), (1, [.ref 2, .ref 3, .ref 4, .int (0 : Int32)]), (0, [.int s0, .int s1, .int s2, .int s3]), (0, (oO198 s0 s1 s2 s3)), (0, (oO206 s0 s1 s2 s3))]
def oH208 (s0 s1 s2 s3 : Int32) (c : Int64) : Hp := [(0, [.int s0, .int s1, .int s2, .int s3]), (1, [.ref 2, .ref 3, .ref 4, .int (c.toInt32)]), (0, [.int s0, .int s1, .int s2, .int s3]), (0, (oO198 s0 s1 s2 s3)), (0, (oO206 s0 s1 s2 s3))]
def oH209 (s0 s1 s2 s3 : Int32) (c : Int64) : Hp := [(0, [.int s0, .int s1, .int s2, .int s3]), (1, [.ref 2, .ref 3, .ref 4, .int (c.toInt32)]), (0, [.int s0, .int s1, .int s2, .int s3]), (0, (oO198 s0 s1 s2 s3)), (0, (oO206 s0 s1 s2 s3)), (0, oO14)]
def oH210 (s0 s1 s2 s3 : Int32) (c : Int64) : Hp := [(0, [.int s0, .int s1, .int s2, .int s3]), (1, [.ref 2, .ref 3, .ref 4, .int (c.toInt32)]), (0, [.int s0, .int s1, .int s2, .int s3]), (0, (oO198 s0 s1 s2 s3)), (0, (oO206 s0 s1 s2 s3)), (0, oO16)]
def oH211 (s0 s1 s2 s3 : Int32) (c : Int64) : Hp := [(0, [.int s0, .int s1, .int s2, .int s3]), (1, [.ref 2, .ref 3, .ref 4, .int (c.toInt32)]), (0, [.int s0, .int s1, .int s2, .int s3]), (0, (oO198 s0 s1 s2 s3)), (0, (oO206 s0 s1 s2 s3)), (0, oO18)]
def oH212 (s0 s1 s2 s3 : Int32) (c : Int64) : Hp := [(0, [.int s0, .int s1, .int s2, .int s3]), (1, [.ref 2, .ref 3, .ref 4, .int (c.toInt32)]), (0, [.int s0, .int s1, .int s2, .int s3]), (0, (oO198 s0 s1 s2 s3)), (0, (oO206 s0 s1 s2 s3)), (0, oO20)]
def oH213 (s0 s1 s2 s3 : Int32) (c : Int64) : Hp := [(0, [.int s0, .int s1, .int s2, .int s3]), (1, [.ref 2, .ref 3, .ref 4, .int (c.toInt32)]), (0, [.int s0, .int s1, .int s2, .int s3]), (0, (oO198 s0 s1 s2 s3)), (0, (oO206 s0 s1 s2 s3)), (0, oO22)]
def oH214 (s0 s1 s2 s3 : Int32) (c : Int64) : Hp := [(0, [.int s0, .int s1, .int s2, .int s3]), (1, [.ref 2, .ref 3, .ref 4, .int (c.toInt32)]), (0, [.int s0, .int s1, .int s2, .int s3]), (0, (oO198 s0 s1 s2 s3)), (0, (oO206 s0 s1 s2 s3)), (0, oO24)]
def oH215 (s0 s1 s2 s3 : Int32) (c : Int64) : Hp := [(0, [.int s0, .int s1, .int s2, .int s3]), (1, [.ref 2, .ref 3, .ref 4, .int (c.toInt32)]), (0, [.int s0, .int s1, .int s2, .int s3]), (0, (oO198 s0 s1 s2 s3)), (0, (oO206 s0 s1 s2 s3)), (0, oO26)]
def oH216 (s0 s1 s2 s3 : Int32) (c : Int64) : Hp := [(0, [.int s0, .int s1, .int s2, .int s3]), (1, [.ref 2, .ref 3, .ref 4, .int (c.toInt32)]), (0, [.int s0, .int s1, .int s2, .int s3]), (0, (oO198 s0 s1 s2 s3)), (0, (oO206 s0 s1 s2 s3)), (0, oO28)]
def oH217 (s0 s1 s2 s3 : Int32) (c : Int64) : Hp := [(0, [.int s0, .int s1, .int s2, .int s3]), (1, [.ref 2, .ref 3, .ref 4, .int (c.toInt32)]), (0, [.int s0, .int s1, .int s2, .int s3]), (0, (oO198 s0 s1 s2 s3)), (0, (oO206 s0 s1 s2 s3)), (0, oO30)]
def oH218 (s0 s1 s2 s3 g0 : Int32) (c : Int64) : Hp := [(0, [.int s0, .int s1, .int s2, .int s3]), (1, [.ref 2, .ref 3, .ref 4, .int (c.toInt32)]), (0, [.int s0, .int s1, .int s2, .int s3]), (0, (oO198 s0 s1 s2 s3)), (0, (oO206 s0 s1 s2 s3)), (0, (oO32 g0))]
def oH219 (s0 s1 s2 s3 g0 g1 : Int32) (c : Int64) : Hp := [(0, [.int s0, .int s1, .int s2, .int s3]), (1, [.ref 2, .ref 3, .ref 4, .int (c.toInt32)]), (0, [.int s0, .int s1, .int s2, .int s3]), (0, (oO198 s0 s1 s2 s3)), (0, (oO206 s0 s1 s2 s3)), (0, (oO34 g0 g1))]
def oH220 (s0 s1 s2 s3 g0 g1 g2 : Int32) (c : Int64) : Hp := [(0, [.int s0, .int s1, .int s2, .int s3]), (1, [.ref 2, .ref 3, .ref 4, .int (c.toInt32)]), (0, [.int s0, .int s1, .int s2, .int s3]), (0, (oO198 s0 s1 s2 s3)), (0, (oO206 s0 s1 s2 s3)), (0, (oO124 g0 g1 g2))]
def oO221 (g0 g1 g2 g3 : Int32) : List Value := [.int g0, .int g1, .int g2, .int g3, .int (104 : Int32), .int (105 : Int32), .int (106 : Int32), .int (107 : Int32)]
def oH222 (s0 s1 s2 s3 g0 g1 g2 g3 : Int32) (c : Int64) : Hp := [(0, [.int s0, .int s1, .int s2, .int s3]), (1, [.ref 2, .ref 3, .ref 4, .int (c.toInt32)]), (0, [.int s0, .int s1, .int s2, .int s3]), (0, (oO198 s0 s1 s2 s3)), (0, (oO206 s0 s1 s2 s3)), (0, (oO221 g0 g1 g2 g3))]
def oH223 (s0 s1 s2 s3 g0 g1 g2 g3 : Int32) (c : Int64) : Hp := [(0, [.int s0, .int s1, .int s2, .int s3]), (1, [.ref 2, .ref 3, .ref 4, .int (c.toInt32)]), (0, [.int s0, .int s1, .int s2, .int s3]), (0, (oO198 s0 s1 s2 s3)), (0, (oO206 s0 s1 s2 s3)), (0, (oO221 g0 g1 g2 g3)), (0, oO36)]
def oH224 (s0 s1 s2 s3 g0 g1 g2 g3 : Int32) (c : Int64) : Hp := [(0, [.int s0, .int s1, .int s2, .int s3]), (1, [.ref 2, .ref 3, .ref 4, .int (c.toInt32)]), (0, [.int s0, .int s1, .int s2, .int s3]), (0, (oO198 s0 s1 s2 s3)), (0, (oO206 s0 s1 s2 s3)), (0, (oO221 g0 g1 g2 g3)), (0, oO38)]
def oH225 (s0 s1 s2 s3 g0 g1 g2 g3 : Int32) (c : Int64) : Hp := [(0, [.int s0, .int s1, .int s2, .int s3]), (1, [.ref 2, .ref 3, .ref 4, .int (c.toInt32)]), (0, [.int s0, .int s1, .int s2, .int s3]), (0, (oO198 s0 s1 s2 s3)), (0, (oO206 s0 s1 s2 s3)), (0, (oO221 g0 g1 g2 g3)), (0, oO40)]
def oH226 (s0 s1 s2 s3 g0 g1 g2 g3 : Int32) (c : Int64) : Hp := [(0, [.int s0, .int s1, .int s2, .int s3]), (1, [.ref 2, .ref 3, .ref 4, .int (c.toInt32)]), (0, [.int s0, .int s1, .int s2, .int s3]), (0, (oO198 s0 s1 s2 s3)), (0, (oO206 s0 s1 s2 s3)), (0, (oO221 g0 g1 g2 g3)), (0, oO42)]
def oH227 (s0 s1 s2 s3 g0 g1 g2 g3 : Int32) (c : Int64) : Hp := [(0, [.int s0, .int s1, .int s2, .int s3]), (1, [.ref 2, .ref 3, .ref 4, .int (c.toInt32)]), (0, [.int s0, .int s1, .int s2, .int s3]), (0, (oO198 s0 s1 s2 s3)), (0, (oO206 s0 s1 s2 s3)), (0, (oO221 g0 g1 g2 g3)), (0, oO44)]
def oH228 (s0 s1 s2 s3 g0 g1 g2 g3 : Int32) (c : Int64) : Hp := [(0, [.int s0, .int s1, .int s2, .int s3]), (1, [.ref 2, .ref 3, .ref 4, .int (c.toInt32)]), (0, [.int s0, .int s1, .int s2, .int s3]), (0, (oO198 s0 s1 s2 s3)), (0, (oO206 s0 s1 s2 s3)), (0, (oO221 g0 g1 g2 g3)), (0, oO46)]
def oH229 (s0 s1 s2 s3 g0 g1 g2 g3 : Int32) (c : Int64) : Hp := [(0, [.int s0, .int s1, .int s2, .int s3]), (1, [.ref 2, .ref 3, .ref 4, .int (c.toInt32)]), (0, [.int s0, .int s1, .int s2, .int s3]), (0, (oO198 s0 s1 s2 s3)), (0, (oO206 s0 s1 s2 s3)), (0, (oO221 g0 g1 g2 g3)), (0, oO48)]
def oH230 (s0 s1 s2 s3 g0 g1 g2 g3 : Int32) (c : Int64) : Hp := [(0, [.int s0, .int s1, .int s2, .int s3]), (1, [.ref 2, .ref 3, .ref 4, .int (c.toInt32)]), (0, [.int s0, .int s1, .int s2, .int s3]), (0, (oO198 s0 s1 s2 s3)), (0, (oO206 s0 s1 s2 s3)), (0, (oO221 g0 g1 g2 g3)), (0, oO50)]
def oH231 (s0 s1 s2 s3 g0 g1 g2 g3 : Int32) (c : Int64) : Hp := [(0, [.int s0, .int s1, .int s2, .int s3]), (1, [.ref 2, .ref 3, .ref 4, .int (c.toInt32)]), (0, [.int s0, .int s1, .int s2, .int s3]), (0, (oO198 s0 s1 s2 s3)), (0, (oO206 s0 s1 s2 s3)), (0, (oO221 g0 g1 g2 g3)), (0, (oO52 s1 g0 g1))]
def oH232 (s0 s1 s2 s3 g0 g1 g2 g3 : Int32) (c : Int64) : Hp := [(0, [.int s0, .int s1, .int s2, .int s3]), (1, [.ref 2, .ref 3, .ref 4, .int (c.toInt32)]), (0, [.int s0, .int s1, .int s2, .int s3]), (0, (oO198 s0 s1 s2 s3)), (0, (oO206 s0 s1 s2 s3)), (0, (oO221 g0 g1 g2 g3)), (0, (oO135 s0 s1 s2 g0 g1 g2))]
def oO233 (s0 s1 s2 s3 g0 g1 g2 g3 : Int32) : List Value := [.int (((0 : Int32) + (g0 * s1)) + g1), .int ((((0 : Int32) + (s0 * s1)) + (g0 * s2)) + g2), .int (((((0 : Int32) + (s0 * s1)) + (s0 * s2)) + (g0 * s3)) + g3), .int (-1 : Int32), .int (-1 : Int32), .int (-1 : Int32), .int (-1 : Int32)]
def oH234 (s0 s1 s2 s3 g0 g1 g2 g3 : Int32) (c : Int64) : Hp := [(0, [.int s0, .int s1, .int s2, .int s3]), (1, [.ref 2, .ref 3, .ref 4, .int (c.toInt32)]), (0, [.int s0, .int s1, .int s2, .int s3]), (0, (oO198 s0 s1 s2 s3)), (0, (oO206 s0 s1 s2 s3)), (0, (oO221 g0 g1 g2 g3)), (0, (oO233 s0 s1 s2 s3 g0 g1 g2 g3))]
def oO235 (s0 s1 s2 s3 g0 g1 g2 g3 : Int32) : List Value := [.int (((0 : Int32) + (g0 * s1)) + g1), .int ((((0 : Int32) + (s0 * s1)) + (g0 * s2)) + g2), .int (((((0 : Int32) + (s0 * s1)) + (s0 * s2)) + (g0 * s3)) + g3), .int ((((0 : Int32) + (s0 * ((((((0 : Int32) + s0) + s1) + s2) + s3) - ((0 : Int32) + s0)))) + (g1 * s2)) + g2), .int (-1 : Int32), .int (-1 : Int32), .int (-1 : Int32)]
def oH236 (s0 s1 s2 s3 g0 g1 g2 g3 : Int32) (c : Int64) : Hp := [(0, [.int s0, .int s1, .int s2, .int s3]), (1, [.ref 2, .ref 3, .ref 4, .int (c.toInt32)]), (0, [.int s0, .int s1, .int s2, .int s3]), (0, (oO198 s0 s1 s2 s3)), (0, (oO206 s0 s1 s2 s3)), (0, (oO221 g0 g1 g2 g3)), (0, (oO235 s0 s1 s2 s3 g0 g1 g2 g3))]
def oO237 (s0 s1 s2 s3 g0 g1 g2 g3 : Int32) : List Value := [.int (((0 : Int32) + (g0 * s1)) + g1), .int ((((0 : Int32) + (s0 * s1)) + (g0 * s2)) + g2), .int (((((0 : Int32) + (s0 * s1)) + (s0 * s2)) + (g0 * s3)) + g3), .int ((((0 : Int32) + (s0 * ((((((0 : Int32) + s0) + s1) + s2) + s3) - ((0 : Int32) + s0)))) + (g1 * s2)) + g2), .int (((((0 : Int32) + (s0 * ((((((0 : Int32) + s0) + s1) + s2) + s3) - ((0 : Int32) + s0)))) + (s1 * s2)) + (g1 * s3)) + g3), .int (-1 : Int32), .int (-1 : Int32)]
def oH238 (s0 s1 s2 s3 g0 g1 g2 g3 : Int32) (c : Int64) : Hp := [(0, [.int s0, .int s1, .int s2, .int s3]), (1, [.ref 2, .ref 3, .ref 4, .int (c.toInt32)]), (0, [.int s0, .int s1, .int s2, .int s3]), (0, (oO198 s0 s1 s2 s3)), (0, (oO206 s0 s1 s2 s3)), (0, (oO221 g0 g1 g2 g3)), (0, (oO237 s0 s1 s2 s3 g0 g1 g2 g3))]
def oO239 (s0 s1 s2 s3 g0 g1 g2 g3 : Int32) : List Value := [.int (((0 : Int32) + (g0 * s1)) + g1), .int ((((0 : Int32) + (s0 * s1)) + (g0 * s2)) + g2), .int (((((0 : Int32) + (s0 * s1)) + (s0 * s2)) + (g0 * s3)) + g3), .int ((((0 : Int32) + (s0 * ((((((0 : Int32) + s0) + s1) + s2) + s3) - ((0 : Int32) + s0)))) + (g1 * s2)) + g2), .int (((((0 : Int32) + (s0 * ((((((0 : Int32) + s0) + s1) + s2) + s3) - ((0 : Int32) + s0)))) + (s1 * s2)) + (g1 * s3)) + g3), .int (((((0 : Int32) + (s0 * ((((((0 : Int32) + s0) + s1) + s2) + s3) - ((0 : Int32) + s0)))) + (s1 * ((((((0 : Int32) + s0) + s1) + s2) + s3) - (((0 : Int32) + s0) + s1)))) + (g2 * s3)) + g3), .int (-1 : Int32)]
def oH240 (s0 s1 s2 s3 g0 g1 g2 g3 : Int32) (c : Int64) : Hp := [(0, [.int s0, .int s1, .int s2, .int s3]), (1, [.ref 2, .ref 3, .ref 4, .int (c.toInt32)]), (0, [.int s0, .int s1, .int s2, .int s3]), (0, (oO198 s0 s1 s2 s3)), (0, (oO206 s0 s1 s2 s3)), (0, (oO221 g0 g1 g2 g3)), (0, (oO239 s0 s1 s2 s3 g0 g1 g2 g3))]
def oH241 (s0 s1 s2 s3 g0 : Int32) (c : Int64) : Hp := [(0, [.int s0, .int s1, .int s2, .int s3]), (1, [.ref 2, .ref 3, .ref 4, .int (c.toInt32)]), (0, [.int s0, .int s1, .int s2, .int s3]), (0, (oO198 s0 s1 s2 s3)), (0, (oO206 s0 s1 s2 s3)), (0, (oO54 g0))]
def oH242 (s0 s1 s2 s3 g0 g1 : Int32) (c : Int64) : Hp := [(0, [.int s0, .int s1, .int s2, .int s3]), (1, [.ref 2, .ref 3, .ref 4, .int (c.toInt32)]), (0, [.int s0, .int s1, .int s2, .int s3]), (0, (oO198 s0 s1 s2 s3)), (0, (oO206 s0 s1 s2 s3)), (0, (oO56 g0 g1))]
def oH243 (s0 s1 s2 s3 g0 g1 g2 : Int32) (c : Int64) : Hp := [(0, [.int s0, .int s1, .int s2, .int s3]), (1, [.ref 2, .ref 3, .ref 4, .int (c.toInt32)]), (0, [.int s0, .int s1, .int s2, .int s3]), (0, (oO198 s0 s1 s2 s3)), (0, (oO206 s0 s1 s2 s3)), (0, (oO141 g0 g1 g2))]
def oO244 (g0 g1 g2 g3 : Int32) : List Value := [.int (100 : Int32), .int g0, .int g1, .int g2, .int g3, .int (105 : Int32), .int (106 : Int32), .int (107 : Int32)]
def oH245 (s0 s1 s2 s3 g0 g1 g2 g3 : Int32) (c : Int64) : Hp := [(0, [.int s0, .int s1, .int s2, .int s3]), (1, [.ref 2, .ref 3, .ref 4, .int (c.toInt32)]), (0, [.int s0, .int s1, .int s2, .int s3]), (0, (oO198 s0 s1 s2 s3)), (0, (oO206 s0 s1 s2 s3)), (0, (oO244 g0 g1 g2 g3))]
def oH246 (s0 s1 s2 s3 g0 g1 g2 g3 : Int32) (c : Int64) : Hp := [(0, [.int s0, .int s1, .int s2, .int s3]), (1, [.ref 2, .ref 3, .ref 4, .int (c.toInt32)]), (0, [.int s0, .int s1, .int s2, .int s3]), (0, (oO198 s0 s1 s2 s3)), (0, (oO206 s0 s1 s2 s3)), (0, (oO244 g0 g1 g2 g3)), (0, oO36)]
def oH247 (s0 s1 s2 s3 g0 g1 g2 g3 : Int32) (c : Int64) : Hp := [(0, [.int s0, .int s1, .int s2, .int s3]), (1, [.ref 2, .ref 3, .ref 4, .int (c.toInt32)]), (0, [.int s0, .int s1, .int s2, .int s3]), (0, (oO198 s0 s1 s2 s3)), (0, (oO206 s0 s1 s2 s3)), (0, (oO244 g0 g1 g2 g3)), (0, oO38)]
def oH248 (s0 s1 s2 s3 g0 g1 g2 g3 : Int32) (c : Int64) : Hp := [(0, [.int s0, .int s1, .int s2, .int s3]), (1, [.ref 2, .ref 3, .ref 4, .int (c.toInt32)]), (0, [.int s0, .int s1, .int s2, .int s3]), (0, (oO198 s0 s1 s2 s3)), (0, (oO206 s0 s1 s2 s3)), (0, (oO244 g0 g1 g2 g3)), (0, oO40)]
def oH249 (s0 s1 s2 s3 g0 g1 g2 g3 : Int32) (c : Int64) : Hp := [(0, [.int s0, .int s1, .int s2, .int s3]), (1, [.ref 2, .ref 3, .ref 4, .int (c.toInt32)]), (0, [.int s0, .int s1, .int s2, .int s3]), (0, (oO198 s0 s1 s2 s3)), (0, (oO206 s0 s1 s2 s3)), (0, (oO244 g0 g1 g2 g3)), (0, oO42)]
def oH250 (s0 s1 s2 s3 g0 g1 g2 g3 : Int32) (c : Int64) : Hp := [(0, [.int s0, .int s1, .int s2, .int s3]), (1, [.ref 2, .ref 3, .ref 4, .int (c.toInt32)]), (0, [.int s0, .int s1, .int s2, .int s3]), (0, (oO198 s0 s1 s2 s3)), (0, (oO206 s0 s1 s2 s3)), (0, (oO244 g0 g1 g2 g3)), (0, oO44)]
def oH251 (s0 s1 s2 s3 g0 g1 g2 g3 : Int32) (c : Int64) : Hp := [(0, [.int s0, .int s1, .int s2, .int s3]), (1, [.ref 2, .ref 3, .ref 4, .int (c.toInt32)]), (0, [.int s0, .int s1, .int s2, .int s3]), (0, (oO198 s0 s1 s2 s3)), (0, (oO206 s0 s1 s2 s3)), (0, (oO244 g0 g1 g2 g3)), (0, oO46)]
def oH252 (s0 s1 s2 s3 g0 g1 g2 g3 : Int32) (c : Int64) : Hp := [(0, [.int s0, .int s1, .int s2, .int s3]), (1, [.ref 2, .ref 3, .ref 4, .int (c.toInt32)]), (0, [.int s0, .int s1, .int s2, .int s3]), (0, (oO198 s0 s1 s2 s3)), (0, (oO206 s0 s1 s2 s3)), (0, (oO244 g0 g1 g2 g3)), (0, oO48)]
def oH253 (s0 s1 s2 s3 g0 g1 g2 g3 : Int32) (c : Int64) : Hp := [(0, [.int s0, .int s1, .int s2, .int s3]), (1, [.ref 2, .ref 3, .ref 4, .int (c.toInt32)]), (0, [.int s0, .int s1, .int s2, .int s3]), (0, (oO198 s0 s1 s2 s3)), (0, (oO206 s0 s1 s2 s3)), (0, (oO244 g0 g1 g2 g3)), (0, oO50)]
def oH254 (s0 s1 s2 s3 g0 g1 g2 g3 : Int32) (c : Int64) : Hp := [(0, [.int s0, .int s1, .int s2, .int s3]), (1, [.ref 2, .ref 3, .ref 4, .int (c.toInt32)]), (0, [.int s0, .int s1, .int s2, .int s3]), (0, (oO198 s0 s1 s2 s3)), (0, (oO206 s0 s1 s2 s3)), (0, (oO244 g0 g1 g2 g3)), (0, (oO52 s1 g0 g1))]
def oH255 (s0 s1 s2 s3 g0 g1 g2 g3 : Int32) (c : Int64) : Hp := [(0, [.int s0, .int s1, .int s2, .int s3]), (1, [.ref 2, .ref 3, .ref 4, .int (c.toInt32)]), (0, [.int s0, .int s1, .int s2, .int s3]), (0, (oO198 s0 s1 s2 s3)), (0, (oO206 s0 s1 s2 s3)), (0, (oO244 g0 g1 g2 g3)), (0, (oO135 s0 s1 s2 g0 g1 g2))]
def oH256 (s0 s1 s2 s3 g0 g1 g2 g3 : Int32) (c : Int64) : Hp := [(0, [.int s0, .int s1, .int s2, .int s3]), (1, [.ref 2, .ref 3, .ref 4, .int (c.toInt32)]), (0, [.int s0, .int s1, .int s2, .int s3]), (0, (oO198 s0 s1 s2 s3)), (0, (oO206 s0 s1 s2 s3)), (0, (oO244 g0 g1 g2 g3)), (0, (oO233 s0 s1 s2 s3 g0 g1 g2 g3))]
def oH257 (s0 s1 s2 s3 g0 g1 g2 g3 : Int32) (c : Int64) : Hp := [(0, [.int s0, .int s1, .int s2, .int s3]), (1, [.ref 2, .ref 3, .ref 4, .int (c.toInt32)]), (0, [.int s0, .int s1, .int s2, .int s3]), (0, (oO198 s0 s1 s2 s3)), (0, (oO206 s0 s1 s2 s3)), (0, (oO244 g0 g1 g2 g3)), (0, (oO235 s0 s1 s2 s3 g0 g1 g2 g3))]
def oH258 (s0 s1 s2 s3 g0 g1 g2 g3 : Int32) (c : Int64) : Hp := [(0, [.int s0, .int s1, .int s2, .int s3]), (1, [.ref 2, .ref 3, .ref 4, .int (c.toInt32)]), (0, [.int s0, .int s1, .int s2, .int s3]), (0, (oO198 s0 s1 s2 s3)), (0, (oO206 s0 s1 s2 s3)), (0, (oO244 g0 g1 g2 g3)), (0, (oO237 s0 s1 s2 s3 g0 g1 g2 g3))]
def oH259 (s0 s1 s2 s3 g0 g1 g2 g3 : Int32) (c : Int64) : Hp := [(0, [.int s0, .int s1, .int s2, .int s3]), (1, [.ref 2, .ref 3, .ref 4, .int (c.toInt32)]), (0, [.int s0, .int s1, .int s2, .int s3]), (0, (oO198 s0 s1 s2 s3)), (0, (oO206 s0 s1 s2 s3)), (0, (oO244 g0 g1 g2 g3)), (0, (oO239 s0 s1 s2 s3 g0 g1 g2 g3))]
def oH260 (s0 s1 s2 s3 g0 : Int32) (c : Int64) : Hp := [(0, [.int s0, .int s1, .int s2, .int s3]), (1, [.ref 2, .ref 3, .ref 4, .int (c.toInt32)]), (0, [.int s0, .int s1, .int s2, .int s3]), (0, (oO198 s0 s1 s2 s3)), (0, (oO206 s0 s1 s2 s3)), (0, (oO67 g0))]
def oH261 (s0 s1 s2 s3 g0 g1 : Int32) (c : Int64) : Hp := [(0, [.int s0, .int s1, .int s2, .int s3]), (1, [.ref 2, .ref 3, .ref 4, .int (c.toInt32)]), (0, [.int s0, .int s1, .int s2, .int s3]), (0, (oO198 s0 s1 s2 s3)), (0, (oO206 s0 s1 s2 s3)), (0, (oO69 g0 g1))]
def oH262 (s0 s1 s2 s3 g0 g1 g2 : Int32) (c : Int64) : Hp := [(0, [.int s0, .int s1, .int s2, .int s3]), (1, [.ref 2, .ref 3, .ref 4, .int (c.toInt32)]), (0, [.int s0, .int s1, .int s2, .int s3]), (0, (oO198 s0 s1 s2 s3)), (0, (oO206 s0 s1 s2 s3)), (0, (oO156 g0 g1 g2))]
def oO263 (g0 g1 g2 g3 : Int32) : List Value := [.int (100 : Int32), .int (101 : Int32), .int g0, .int g1, .int g2, .int g3, .int (106 : Int32), .int (107 : Int32)]
def oH264 (s0 s1 s2 s3 g0 g1 g2 g3 : Int32) (c : Int64) : Hp := [(0, [.int s0, .int s1, .int s2, .int s3]), (1, [.ref 2, .ref 3, .ref 4, .int (c.toInt32)]), (0, [.int s0, .int s1, .int s2, .int s3]), (0, (oO198 s0 s1 s2 s3)), (0, (oO206 s0 s1 s2 s3)), (0, (oO263 g0 g1 g2 g3))]
def oH265 (s0 s1 s2 s3 g0 g1 g2 g3 : Int32) (c : Int64) : Hp := [(0, [.int s0, .int s1, .int s2, .int s3]), (1, [.ref 2, .ref 3, .ref 4, .int (c.toInt32)]), (0, [.int s0, .int s1, .int s2, .int s3]), (0, (oO198 s0 s1 s2 s3)), (0, (oO206 s0 s1 s2 s3)), (0, (oO263 g0 g1 g2 g3)), (0, oO36)]
def oH266 (s0 s1 s2 s3 g0 g1 g2 g3 : Int32) (c : Int64) : Hp := [(0, [.int s0, .int s1, .int s2, .int s3]), (1, [.ref 2, .ref 3, .ref 4, .int (c.toInt32)]), (0, [.int s0, .int s1, .int s2, .int s3]), (0, (oO198 s0 s1 s2 s3)), (0, (oO206 s0 s1 s2 s3)), (0, (oO263 g0 g1 g2 g3)), (0, oO38)]
def oH267 (s0 s1 s2 s3 g0 g1 g2 g3 : Int32) (c : Int64) : Hp := [(0, [.int s0, .int s1, .int s2, .int s3]), (1, [.ref 2, .ref 3, .ref 4, .int (c.toInt32)]), (0, [.int s0, .int s1, .int s2, .int s3]), (0, (oO198 s0 s1 s2 s3)), (0, (oO206 s0 s1 s2 s3)), (0, (oO263 g0 g1 g2 g3)), (0, oO40)]
def oH268 (s0 s1 s2 s3 g0 g1 g2 g3 : Int32) (c : Int64) : Hp := [(0, [.int s0, .int s1, .int s2, .int s3]), (1, [.ref 2, .ref 3, .ref 4, .int (c.toInt32)]), (0, [.int s0, .int s1, .int s2, .int s3]), (0, (oO198 s0 s1 s2 s3)), (0, (oO206 s0 s1 s2 s3)), (0, (oO263 g0 g1 g2 g3)), (0, oO42)]
def oH269 (s0 s1 s2 s3 g0 g1 g2 g3 : Int32) (c : Int64) : Hp := [(0, [.int s0, .int s1, .int s2, .int s3]), (1, [.ref 2, .ref 3, .ref 4, .int (c.toInt32)]), (0, [.int s0, .int s1, .int s2, .int s3]), (0, (oO198 s0 s1 s2 s3)), (0, (oO206 s0 s1 s2 s3)), (0, (oO263 g0 g1 g2 g3)), (0, oO44)]
def oH270 (s0 s1 s2 s3 g0 g1 g2 g3 : Int32) (c : Int64) : Hp := [(0, [.int s0, .int s1, .int s2, .int s3]), (1, [.ref 2, .ref 3, .ref 4, .int (c.toInt32)]), (0, [.int s0, .int s1, .int s2, .int s3]), (0, (oO198 s0 s1 s2 s3)), (0, (oO206 s0 s1 s2 s3)), (0, (oO263 g0 g1 g2 g3)), (0, oO46)]
def oH271 (s0 s1 s2 s3 g0 g1 g2 g3 : Int32) (c : Int64) : Hp := [(0, [.int s0, .int s1, .int s2, .int s3]), (1, [.ref 2, .ref 3, .ref 4, .int (c.toInt32)]), (0, [.int s0, .int s1, .int s2, .int s3]), (0, (oO198 s0 s1 s2 s3)), (0, (oO206 s0 s1 s2 s3)), (0, (oO263 g0 g1 g2 g3)), (0, oO48)]
def oH272 (s0 s1 s2 s3 g0 g1 g2 g3 : Int32) (c : Int64) : Hp := [(0, [.int s0, .int s1, .int s2, .int s3]), (1, [.ref 2, .ref 3, .ref 4, .int (c.toInt32)]), (0, [.int s0, .int s1, .int s2, .int s3]), (0, (oO198 s0 s1 s2 s3)), (0, (oO206 s0 s1 s2 s3)), (0, (oO263 g0 g1 g2 g3)), (0, oO50)]
def oH273 (s0 s1 s2 s3 g0 g1 g2 g3 : Int32) (c : Int64) : Hp := [(0, [.int s0, .int s1, .int s2, .int s3]), (1, [.ref 2, .ref 3, .ref 4, .int (c.toInt32)]), (0, [.int s0, .int s1, .int s2, .int s3]), (0, (oO198 s0 s1 s2 s3)), (0, (oO206 s0 s1 s2 s3)), (0, (oO263 g0 g1 g2 g3)), (0, (oO52 s1 g0 g1))]
def oH274 (s0 s1 s2 s3 g0 g1 g2 g3 : Int32) (c : Int64) : Hp := [(0, [.int s0, .int s1, .int s2, .int s3]), (1, [.ref 2, .ref 3, .ref 4, .int (c.toInt32)]), (0, [.int s0, .int s1, .int s2, .int s3]), (0, (oO198 s0 s1 s2 s3)), (0, (oO206 s0 s1 s2 s3)), (0, (oO263 g0 g1 g2 g3)), (0, (oO135 s0 s1 s2 g0 g1 g2))]
def oH275 (s0 s1 s2 s3 g0 g1 g2 g3 : Int32) (c : Int64) : Hp := [(0, [.int s0, .int s1, .int s2, .int s3]), (1, [.ref 2, .ref 3, .ref 4, .int (c.toInt32)]), (0, [.int s0, .int s1, .int s2, .int s3]), (0, (oO198 s0 s1 s2 s3)), (0, (oO206 s0 s1 s2 s3)), (0, (oO263 g0 g1 g2 g3)), (0, (oO233 s0 s1 s2 s3 g0 g1 g2 g3))]
def oH276 (s0 s1 s2 s3 g0 g1 g2 g3 : Int32) (c : Int64) : Hp := [(0, [.int s0, .int s1, .int s2, .int s3]), (1, [.ref 2, .ref 3, .ref 4, .int (c.toInt32)]), (0, [.int s0, .int s1, .int s2, .int s3]), (0, (oO198 s0 s1 s2 s3)), (0, (oO206 s0 s1 s2 s3)), (0, (oO263 g0 g1 g2 g3)), (0, (oO235 s0 s1 s2 s3 g0 g1 g2 g3))]
def oH277 (s0 s1 s2 s3 g0 g1 g2 g3 : Int32) (c : Int64) : Hp := [(0, [.int s0, .int s1, .int s2, .int s3]), (1, [.ref 2, .ref 3, .ref 4, .int (c.toInt32)]), (0, [.int s0, .int s1, .int s2, .int s3]), (0, (oO198 s0 s1 s2 s3)), (0, (oO206 s0 s1 s2 s3)), (0, (oO263 g0 g1 g2 g3)), (0, (oO237 s0 s1 s2 s3 g0 g1 g2 g3))]
def oH278 (s0 s1 s2 s3 g0 g1 g2 g3 : Int32) (c : Int64) : Hp := [(0, [.int s0, .int s1, .int s2, .int s3]), (1, [.ref 2, .ref 3, .ref 4, .int (c.toInt32)]), (0, [.int s0, .int s1, .int s2, .int s3]), (0, (oO198 s0 s1 s2 s3)), (0, (oO206 s0 s1 s2 s3)), (0, (oO263 g0 g1 g2 g3)), (0, (oO239 s0 s1 s2 s3 g0 g1 g2 g3))]
def oH279 (s0 s1 s2 s3 g0 : Int32) (c : Int64) : Hp := [(0, [.int s0, .int s1, .int s2, .int s3]), (1, [.ref 2, .ref 3, .ref 4, .int (c.toInt32)]), (0, [.int s0, .int s1, .int s2, .int s3]), (0, (oO198 s0 s1 s2 s3)), (0, (oO206 s0 s1 s2 s3)), (0, (oO80 g0))]
def oH280 (s0 s1 s2 s3 g0 g1 : Int32) (c : Int64) : Hp := [(0, [.int s0, .int s1, .int s2, .int s3]), (1, [.ref 2, .ref 3, .ref 4, .int (c.toInt32)]), (0, [.int s0, .int s1, .int s2, .int s3]), (0, (oO198 s0 s1 s2 s3)), (0, (oO206 s0 s1 s2 s3)), (0, (oO82 g0 g1))]
def oH281 (s0 s1 s2 s3 g0 g1 g2 : Int32) (c : Int64) : Hp := [(0, [.int s0, .int s1, .int s2, .int s3]), (1, [.ref 2, .ref 3, .ref 4, .int (c.toInt32)]), (0, [.int s0, .int s1, .int s2, .int s3]), (0, (oO198 s0 s1 s2 s3)), (0, (oO206 s0 s1 s2 s3)), (0, (oO171 g0 g1 g2))]
def oO282 (g0 g1 g2 g3 : Int32) : List Value := [.int (100 : Int32), .int (101 : Int32), .int (102 : Int32), .int g0, .int g1, .int g2, .int g3, .int (107 : Int32)]
def oH283 (s0 s1 s2 s3 g0 g1 g2 g3 : Int32) (c : Int64) : Hp := [(0, [.int s0, .int s1, .int s2, .int s3]), (1, [.ref 2, .ref 3, .ref 4, .int (c.toInt32)]), (0, [.int s0, .int s1, .int s2, .int s3]), (0, (oO198 s0 s1 s2 s3)), (0, (oO206 s0 s1 s2 s3)), (0, (oO282 g0 g1 g2 g3))]
def oH284 (s0 s1 s2 s3 g0 g1 g2 g3 : Int32) (c : Int64) : Hp := [(0, [.int s0, .int s1, .int s2, .int s3]), (1, [.ref 2, .ref 3, .ref 4, .int (c.toInt32)]), (0, [.int s0, .int s1, .int s2, .int s3]), (0, (oO198 s0 s1 s2 s3)), (0, (oO206 s0 s1 s2 s3)), (0, (oO282 g0 g1 g2 g3)), (0, oO36)]
def oH285 (s0 s1 s2 s3 g0 g1 g2 g3 : Int32) (c : Int64) : Hp := [(0, [.int s0, .int s1, .int s2, .int s3]), (1, [.ref 2, .ref 3, .ref 4, .int (c.toInt32)]), (0, [.int s0, .int s1, .int s2, .int s3]), (0, (oO198 s0 s1 s2 s3)), (0, (oO206 s0 s1 s2 s3)), (0, (oO282 g0 g1 g2 g3)), (0, oO38)]
def oH286 (s0 s1 s2 s3 g0 g1 g2 g3 : Int32) (c : Int64) : Hp := [(0, [.int s0, .int s1, .int s2, .int s3]), (1, [.ref 2, .ref 3, .ref 4, .int (c.toInt32)]), (0, [.int s0, .int s1, .int s2, .int s3]), (0, (oO198 s0 s1 s2 s3)), (0, (oO206 s0 s1 s2 s3)), (0, (oO282 g0 g1 g2 g3)), (0, oO40)]
def oH287 (s0 s1 s2 s3 g0 g1 g2 g3 : Int32) (c : Int64) : Hp := [(0, [.int s0, .int s1, .int s2, .int s3]), (1, [.ref 2, .ref 3, .ref 4, .int (c.toInt32)]), (0, [.int s0, .int s1, .int s2, .int s3]), (0, (oO198 s0 s1 s2 s3)), (0, (oO206 s0 s1 s2 s3)), (0, (oO282 g0 g1 g2 g3)), (0, oO42)]
def oH288 (s0 s1 s2 s3 g0 g1 g2 g3 : Int32) (c : Int64) : Hp := [(0, [.int s0, .int s1, .int s2, .int s3]), (1, [.ref 2, .ref 3, .ref 4, .int (c.toInt32)]), (0, [.int s0, .int s1, .int s2, .int s3]), (0, (oO198 s0 s1 s2 s3)), (0, (oO206 s0 s1 s2 s3)), (0, (oO282 g0 g1 g2 g3)), (0, oO44)]
def oH289 (s0 s1 s2 s3 g0 g1 g2 g3 : Int32) (c : Int64) : Hp := [(0, [.int s0, .int s1, .int s2, .int s3]), (1, [.ref 2, .ref 3, .ref 4, .int (c.toInt32)]), (0, [.int s0, .int s1, .int s2, .int s3]), (0, (oO198 s0 s1 s2 s3)), (0, (oO206 s0 s1 s2 s3)), (0, (oO282 g0 g1 g2 g3)), (0, oO46)]
def oH290 (s0 s1 s2 s3 g0 g1 g2 g3 : Int32) (c : Int64) : Hp := [(0, [.int s0, .int s1, .int s2, .int s3]), (1, [.ref 2, .ref 3, .ref 4, .int (c.toInt32)]), (0, [.int s0, .int s1, .int s2, .int s3]), (0, (oO198 s0 s1 s2 s3)), (0, (oO206 s0 s1 s2 s3)), (0, (oO282 g0 g1 g2 g3)), (0, oO48)]
def oH291 (s0 s1 s2 s3 g0 g1 g2 g3 : Int32) (c : Int64) : Hp := [(0, [.int s0, .int s1, .int s2, .int s3]), (1, [.ref 2, .ref 3, .ref 4, .int (c.toInt32)]), (0, [.int s0, .int s1, .int s2, .int s3]), (0, (oO198 s0 s1 s2 s3)), (0, (oO206 s0 s1 s2 s3)), (0, (oO282 g0 g1 g2 g3)), (0, oO50)]
def oH292 (s0 s1 s2 s3 g0 g1 g2 g3 : Int32) (c : Int64) : Hp := [(0, [.int s0, .int s1, .int s2, .int s3]), (1, [.ref 2, .ref 3, .ref 4, .int (c.toInt32)]), (0, [.int s0, .int s1, .int s2, .int s3]), (0, (oO198 s0 s1 s2 s3)), (0, (oO206 s0 s1 s2 s3)), (0, (oO282 g0 g1 g2 g3)), (0, (oO52 s1 g0 g1))]
def oH293 (s0 s1 s2 s3 g0 g1 g2 g3 : Int32) (c : Int64) : Hp := [(0, [.int s0, .int s1, .int s2, .int s3]), (1, [.ref 2, .ref 3, .ref 4, .int (c.toInt32)]), (0, [.int s0, .int s1, .int s2, .int s3]), (0, (oO198 s0 s1 s2 s3)), (0, (oO206 s0 s1 s2 s3)), (0, (oO282 g0 g1 g2 g3)), (0, (oO135 s0 s1 s2 g0 g1 g2))]
def oH294 (s0 s1 s2 s3 g0 g1 g2 g3 : Int32) (c : Int64) : Hp := [(0, [.int s0, .int s1, .int s2, .int s3]), (1, [.ref 2, .ref 3, .ref 4, .int (c.toInt32)]), (0, [.int s0, .int s1, .int s2, .int s3]), (0, (oO198 s0 s1 s2 s3)), (0, (oO206 s0 s1 s2 s3)), (0, (oO282 g0 g1 g2 g3)), (0, (oO233 s0 s1 s2 s3 g0 g1 g2 g3))]
def oH295 (s0 s1 s2 s3 g0 g1 g2 g3 : Int32) (c : Int64) : Hp := [(0, [.int s0, .int s1, .int s2, .int s3]), (1, [.ref 2, .ref 3, .ref 4, .int (c.toInt32)]), (0, [.int s0, .int s1, .int s2, .int s3]), (0, (oO198 s0 s1 s2 s3)), (0, (oO206 s0 s1 s2 s3)), (0, (oO282 g0 g1 g2 g3)), (0, (oO235 s0 s1 s2 s3 g0 g1 g2 g3))]
def oH296 (s0 s1 s2 s3 g0 g1 g2 g3 : Int32) (c : Int64) : Hp := [(0, [.int s0, .int s1, .int s2, .int s3]), (1, [.ref 2, .ref 3, .ref 4, .int (c.toInt32)]), (0, [.int s0, .int s1, .int s2, .int s3]), (0, (oO198 s0 s1 s2 s3)), (0, (oO206 s0 s1 s2 s3)), (0, (oO282 g0 g1 g2 g3)), (0, (oO237 s0 s1 s2 s3 g0 g1 g2 g3))]
def oH297 (s0 s1 s2 s3 g0 g1 g2 g3 : Int32) (c : Int64) : Hp := [(0, [.int s0, .int s1, .int s2, .int s3]), (1, [.ref 2, .ref 3, .ref 4, .int (c.toInt32)]), (0, [.int s0, .int s1, .int s2, .int s3]), (0, (oO198 s0 s1 s2 s3)), (0, (oO206 s0 s1 s2 s3)), (0, (oO282 g0 g1 g2 g3)), (0, (oO239 s0 s1 s2 s3 g0 g1 g2 g3))]
def oH299  : Hp := [(0, [.int (0 : Int32), .int (0 : Int32)])]
def oH300 (s0 : Int32) : Hp := [(0, [.int s0, .int (0 : Int32)])]
def oH301  : Hp := [(0, [.int (0 : Int32), .int (0 : Int32), .int (0 : Int32)])]
def oH302 (s0 : Int32) : Hp := [(0, [.int s0, .int (0 : Int32), .int (0 : Int32)])]
def oH303 (s0 s1 : Int32) : Hp := [(0, [.int s0, .int s1, .int (0 : Int32)])]
def oH304  : Hp := [(0, oO97)]
def oH305 (s0 : Int32) : Hp := [(0, [.int s0, .int (0 : Int32), .int (0 : Int32), .int (0 : Int32)])]
def oH306 (s0 s1 : Int32) : Hp := [(0, [.int s0, .int s1, .int (0 : Int32), .int (0 : Int32)])]
theorem own_r0 (s0 s1 s2 s3 g0 g1 g2 g3 : Int32) : (((0 : Int32) + (g0 * s1)) + g1) = ((g0 * s1) + g1) := by grind
theorem own_r1 (s0 s1 s2 s3 g0 g1 g2 g3 : Int32) : ((((0 : Int32) + (s0 * s1)) + (g0 * s2)) + g2) = (((s0 * s1) + (g0 * s2)) + g2) := by grind
theorem own_r2 (s0 s1 s2 s3 g0 g1 g2 g3 : Int32) : ((((0 : Int32) + (s0 * (((((0 : Int32) + s0) + s1) + s2) - ((0 : Int32) + s0)))) + (g1 * s2)) + g2) = ((((s0 * s1) + (s0 * s2)) + (g1 * s2)) + g2) := by grind
theorem own_r3 (s0 s1 s2 s3 g0 g1 g2 g3 : Int32) : (((((0 : Int32) + (s0 * s1)) + (s0 * s2)) + (g0 * s3)) + g3) = ((((s0 * s1) + (s0 * s2)) + (g0 * s3)) + g3) := by grind
theorem own_r4 (s0 s1 s2 s3 g0 g1 g2 g3 : Int32) : ((((0 : Int32) + (s0 * ((((((0 : Int32) + s0) + s1) + s2) + s3) - ((0 : Int32) + s0)))) + (g1 * s2)) + g2) = (((((s0 * s1) + (s0 * s2)) + (s0 * s3)) + (g1 * s2)) + g2) := by grind
theorem own_r5 (s0 s1 s2 s3 g0 g1 g2 g3 : Int32) : (((((0 : Int32) + (s0 * ((((((0 : Int32) + s0) + s1) + s2) + s3) - ((0 : Int32) + s0)))) + (s1 * s2)) + (g1 * s3)) + g3) = ((((((s0 * s1) + (s0 * s2)) + (s0 * s3)) + (s1 * s2)) + (g1 * s3)) + g3) := by grind
theorem own_r6 (s0 s1 s2 s3 g0 g1 g2 g3 : Int32) : (((((0 : Int32) + (s0 * ((((((0 : Int32) + s0) + s1) + s2) + s3) - ((0 : Int32) + s0)))) + (s1 * ((((((0 : Int32) + s0) + s1) + s2) + s3) - (((0 : Int32) + s0) + s1)))) + (g2 * s3)) + g3) = (((((((s0 * s1) + (s0 * s2)) + (s0 * s3)) + (s1 * s2)) + (s1 * s3)) + (g2 * s3)) + g3) := by grind
theorem own_big (c : Int64) (hc : c.toInt ≤ 10000000) : ¬ (10000000 : Int64) < c := by
  rw [Int64.lt_iff_toInt_lt]; have : (10000000 : Int64).toInt = 10000000 := rfl; omega
theorem own_sz (x : Int32) : 1 ≤ ((x &&& (7 : Int32)) + (1 : Int32)).toInt ∧ ((x &&& (7 : Int32)) + (1 : Int32)).toInt ≤ 8 := by
  have e := c_and x (7 : Int32) (by decide)
  have e7 : (7 : Int32).toInt = 7 := rfl
  have e1 : (1 : Int32).toInt = 1 := rfl
  rw [XT.add32 (by constructor <;> omega)]; omega
theorem own_nz (x : Int32) (h : 1 ≤ x.toInt) : ¬ x = (0 : Int32) := by
  intro q; subst q; have : (0 : Int32).toInt = 0 := rfl; omega
theorem own_n3 (x : Int32) : (2 : Int32) + ((x &&& (255 : Int32)) % (3 : Int32)) = 2 ∨ (2 : Int32) + ((x &&& (255 : Int32)) % (3 : Int32)) = 3 ∨ (2 : Int32) + ((x &&& (255 : Int32)) % (3 : Int32)) = 4 := by
  have e := c_and x (255 : Int32) (by decide)
  have e2 := (c_irem (x &&& (255 : Int32)) 3 3 rfl).1 e.1
  obtain ⟨p, hp⟩ := own_fin ((x &&& (255 : Int32)) % (3 : Int32)) 3 (by omega) (by omega)
  rw [hp]
  clear hp; revert p; decide
theorem own_fr (x : Int32) : x &&& (3 : Int32) = 0 ∨ x &&& (3 : Int32) = 1 ∨ x &&& (3 : Int32) = 2 ∨ x &&& (3 : Int32) = 3 := by
  have e := c_and x (3 : Int32) (by decide)
  have e3 : (3 : Int32).toInt = 3 := rfl
  obtain ⟨p, hp⟩ := own_fin (x &&& (3 : Int32)) 4 (by omega) (by omega)
  rw [hp]
  clear hp; revert p; decide
set_option maxRecDepth 20000 in
set_option maxHeartbeats 4000000 in
theorem own_f1_2 (s0 s1 s2 s3 g0 g1 g2 g3 : Int32) (h0 : 0 ≤ s0.toInt ∧ s0.toInt ≤ 512) (h1 : 0 ≤ s1.toInt ∧ s1.toInt ≤ 512) : ∃ c : Int64, f1 (oH1 s0 s1) 1 0 = some (oH13 s0 s1 c) := by
  obtain ⟨c, hp, hc⟩ := own_pc2 (oH1 s0 s1) 0 s0 s1 rfl h0 h1
  refine ⟨c, ?_⟩
  rw [f1]
  rw [hp]
  rw [Option.bind_some]
  rw [own_letP1]
  rw [own_letP2]
  rw [if_neg (own_big c hc)]
  rw [own_letV (show List.length (oH1 s0 s1) = 2 from rfl)]
  rw [own_bs (show cA' (oH1 s0 s1) 0 0 8 = some (oH2 s0 s1) from rfl)]
  rw [own_bs (show ck (oH2 s0 s1) 2 0 = some 0 from rfl)]
  rw [own_bs (show pV (oH2 s0 s1) 1 1 0 (.ref 2) = some (oH3 s0 s1) from rfl)]
  rw [own_bs (show lA (oH3 s0 s1) 0 0 = some (2 : Int32) from rfl)]
  rw [own_letV (show List.length (oH3 s0 s1) = 3 from rfl)]
  rw [own_bs (show nA (oH3 s0 s1) 0 ((2 : Int32) + (1 : Int32)) 8 (.int (0 : Int32)) = some (oH4 s0 s1) from rfl)]
  rw [own_bs (show pV (oH4 s0 s1) 1 1 1 (.ref 3) = some (oH5 s0 s1) from rfl)]
  rw [b1_55]
  rw [own_bs (show lA (oH5 s0 s1) 0 0 = some (2 : Int32) from rfl)]
  rw [if_pos (by decide : ((0 : Int32) < (2 : Int32)))]
  rw [own_bs (show gR (oH5 s0 s1) 1 1 1 = some 3 from rfl)]
  rw [own_bs (show gR (oH5 s0 s1) 1 1 1 = some 3 from rfl)]
  rw [own_bs (show rI (oH5 s0 s1) 3 0 (0 : Int32) = some (0 : Int32) from rfl)]
  rw [own_bs (show rI (oH5 s0 s1) 0 0 (0 : Int32) = some s0 from rfl)]
  rw [own_bs (show wV (oH5 s0 s1) 3 0 ((0 : Int32) + (1 : Int32)) (.int ((0 : Int32) + s0)) = some (oH6 s0 s1) from rfl)]
  try rw [show ((0 : Int32) + (1 : Int32)) = (1 : Int32) from rfl]
  rw [b1_55]
  rw [own_bs (show lA (oH6 s0 s1) 0 0 = some (2 : Int32) from rfl)]
  rw [if_pos (by decide : ((1 : Int32) < (2 : Int32)))]
  rw [own_bs (show gR (oH6 s0 s1) 1 1 1 = some 3 from rfl)]
  rw [own_bs (show gR (oH6 s0 s1) 1 1 1 = some 3 from rfl)]
  rw [own_bs (show rI (oH6 s0 s1) 3 0 (1 : Int32) = some ((0 : Int32) + s0) from rfl)]
  rw [own_bs (show rI (oH6 s0 s1) 0 0 (1 : Int32) = some s1 from rfl)]
  rw [own_bs (show wV (oH6 s0 s1) 3 0 ((1 : Int32) + (1 : Int32)) (.int (((0 : Int32) + s0) + s1)) = some (oH8 s0 s1) from rfl)]
  try rw [show ((1 : Int32) + (1 : Int32)) = (2 : Int32) from rfl]
  rw [b1_55]
  rw [own_bs (show lA (oH8 s0 s1) 0 0 = some (2 : Int32) from rfl)]
  rw [if_neg (by decide : ¬ ((2 : Int32) < (2 : Int32)))]
  rw [own_bs (show lA (oH8 s0 s1) 0 0 = some (2 : Int32) from rfl)]
  rw [own_letV (show List.length (oH8 s0 s1) = 4 from rfl)]
  rw [own_bs (show nA (oH8 s0 s1) 0 (2 : Int32) 8 (.int (0 : Int32)) = some (oH9 s0 s1) from rfl)]
  rw [own_bs (show pV (oH9 s0 s1) 1 1 2 (.ref 4) = some (oH10 s0 s1) from rfl)]
  rw [b1_100]
  rw [own_bs (show lA (oH10 s0 s1) 0 0 = some (2 : Int32) from rfl)]
  rw [if_pos (by decide : ((1 : Int32) < (2 : Int32)))]
  rw [own_bs (show gR (oH10 s0 s1) 1 1 2 = some 4 from rfl)]
  rw [own_bs (show gR (oH10 s0 s1) 1 1 2 = some 4 from rfl)]
  rw [own_bs (show rI (oH10 s0 s1) 4 0 ((1 : Int32) - (1 : Int32)) = some (0 : Int32) from rfl)]
  rw [own_bs (show rI (oH10 s0 s1) 0 0 ((1 : Int32) - (1 : Int32)) = some s0 from rfl)]
  rw [own_bs (show gR (oH10 s0 s1) 1 1 1 = some 3 from rfl)]
  rw [own_bs (show lA (oH10 s0 s1) 0 0 = some (2 : Int32) from rfl)]
  rw [own_bs (show rI (oH10 s0 s1) 3 0 (2 : Int32) = some (((0 : Int32) + s0) + s1) from rfl)]
  rw [own_bs (show gR (oH10 s0 s1) 1 1 1 = some 3 from rfl)]
  rw [own_bs (show rI (oH10 s0 s1) 3 0 (1 : Int32) = some ((0 : Int32) + s0) from rfl)]
  rw [own_bs (show wV (oH10 s0 s1) 4 0 (1 : Int32) (.int ((0 : Int32) + (s0 * ((((0 : Int32) + s0) + s1) - ((0 : Int32) + s0))))) = some (oH12 s0 s1) from rfl)]
  try rw [show ((1 : Int32) + (1 : Int32)) = (2 : Int32) from rfl]
  rw [b1_100]
  rw [own_bs (show lA (oH12 s0 s1) 0 0 = some (2 : Int32) from rfl)]
  rw [if_neg (by decide : ¬ ((2 : Int32) < (2 : Int32)))]
  rw [own_bs (show pV (oH12 s0 s1) 1 1 3 (.int (c.toInt32)) = some (oH13 s0 s1 c) from rfl)]
set_option maxRecDepth 20000 in
set_option maxHeartbeats 4000000 in
theorem own_f8_2_0 (s0 s1 s2 s3 g0 g1 g2 g3 : Int32) (c : Int64) : f8 (oH51 s0 s1 g0 g1 c) 1 5 (0 : Int32) 6 = some (oH53 s0 s1 g0 g1 c) := by
  rw [f8]
  rw [b8_6]
  rw [own_bs (show gR (oH51 s0 s1 g0 g1 c) 1 1 0 = some 2 from rfl)]
  rw [own_bs (show lA (oH51 s0 s1 g0 g1 c) 2 0 = some (2 : Int32) from rfl)]
  rw [if_pos (by decide : ((0 : Int32) < (2 : Int32)))]
  rw [own_bs (show gR (oH51 s0 s1 g0 g1 c) 1 1 2 = some 4 from rfl)]
  rw [own_bs (show rI (oH51 s0 s1 g0 g1 c) 4 0 (0 : Int32) = some (0 : Int32) from rfl)]
  rw [own_bs (show rI (oH51 s0 s1 g0 g1 c) 5 0 ((0 : Int32) + (0 : Int32)) = some g0 from rfl)]
  rw [own_letV (show ((0 : Int32) + (1 : Int32)) = (1 : Int32) from rfl)]
  rw [sg8_39]
  rw [own_bs (show gR (oH51 s0 s1 g0 g1 c) 1 1 0 = some 2 from rfl)]
  rw [own_bs (show lA (oH51 s0 s1 g0 g1 c) 2 0 = some (2 : Int32) from rfl)]
  rw [if_pos (by decide : ((1 : Int32) < (2 : Int32)))]
  rw [own_bs (show gR (oH51 s0 s1 g0 g1 c) 1 1 0 = some 2 from rfl)]
  rw [own_bs (show rI (oH51 s0 s1 g0 g1 c) 2 0 (1 : Int32) = some s1 from rfl)]
  rw [own_bs (show rI (oH51 s0 s1 g0 g1 c) 5 0 ((0 : Int32) + (1 : Int32)) = some g1 from rfl)]
  rw [own_bs (show wV (oH51 s0 s1 g0 g1 c) 6 0 (0 : Int32) (.int (((0 : Int32) + (g0 * s1)) + g1)) = some (oH53 s0 s1 g0 g1 c) from rfl)]
  rw [own_bs (show gR (oH53 s0 s1 g0 g1 c) 1 1 0 = some 2 from rfl)]
  rw [own_bs (show rI (oH53 s0 s1 g0 g1 c) 2 0 (0 : Int32) = some s0 from rfl)]
  rw [own_bs (show gR (oH53 s0 s1 g0 g1 c) 1 1 0 = some 2 from rfl)]
  rw [own_bs (show rI (oH53 s0 s1 g0 g1 c) 2 0 (1 : Int32) = some s1 from rfl)]
  rw [own_letU]
  try rw [show ((0 : Int32) + (1 : Int32)) = (1 : Int32) from rfl]
  try rw [show ((1 : Int32) + (1 : Int32)) = (2 : Int32) from rfl]
  rw [sg8_39]
  rw [own_bs (show gR (oH53 s0 s1 g0 g1 c) 1 1 0 = some 2 from rfl)]
  rw [own_bs (show lA (oH53 s0 s1 g0 g1 c) 2 0 = some (2 : Int32) from rfl)]
  rw [if_neg (by decide : ¬ ((2 : Int32) < (2 : Int32)))]
  rw [Option.bind_some]
  rw [own_letP1]
  rw [own_letP21]
  rw [own_letP221]
  rw [own_letP222]
  try rw [show ((0 : Int32) + (1 : Int32)) = (1 : Int32) from rfl]
  rw [b8_6]
  rw [own_bs (show gR (oH53 s0 s1 g0 g1 c) 1 1 0 = some 2 from rfl)]
  rw [own_bs (show lA (oH53 s0 s1 g0 g1 c) 2 0 = some (2 : Int32) from rfl)]
  rw [if_pos (by decide : ((1 : Int32) < (2 : Int32)))]
  rw [own_bs (show gR (oH53 s0 s1 g0 g1 c) 1 1 2 = some 4 from rfl)]
  rw [own_bs (show rI (oH53 s0 s1 g0 g1 c) 4 0 (1 : Int32) = some ((0 : Int32) + (s0 * ((((0 : Int32) + s0) + s1) - ((0 : Int32) + s0)))) from rfl)]
  rw [own_bs (show rI (oH53 s0 s1 g0 g1 c) 5 0 ((0 : Int32) + (1 : Int32)) = some g1 from rfl)]
  rw [own_letV (show ((1 : Int32) + (1 : Int32)) = (2 : Int32) from rfl)]
  rw [sg8_39]
  rw [own_bs (show gR (oH53 s0 s1 g0 g1 c) 1 1 0 = some 2 from rfl)]
  rw [own_bs (show lA (oH53 s0 s1 g0 g1 c) 2 0 = some (2 : Int32) from rfl)]
  rw [if_neg (by decide : ¬ ((2 : Int32) < (2 : Int32)))]
  rw [Option.bind_some]
  rw [own_letP1]
  rw [own_letP21]
  rw [own_letP221]
  rw [own_letP222]
  try rw [show ((1 : Int32) + (1 : Int32)) = (2 : Int32) from rfl]
  rw [b8_6]
  rw [own_bs (show gR (oH53 s0 s1 g0 g1 c) 1 1 0 = some 2 from rfl)]
  rw [own_bs (show lA (oH53 s0 s1 g0 g1 c) 2 0 = some (2 : Int32) from rfl)]
  rw [if_neg (by decide : ¬ ((2 : Int32) < (2 : Int32)))]
set_option maxRecDepth 20000 in
set_option maxHeartbeats 4000000 in
theorem own_c_2_0 (s0 s1 s2 s3 g0 g1 g2 g3 : Int32) (h0 : 0 ≤ s0.toInt ∧ s0.toInt ≤ 512) (h1 : 0 ≤ s1.toInt ∧ s1.toInt ≤ 512) : ∃ D', b0_128 (oH0 s0 s1) s0 s1 s2 s3 (2 : Int32) (0 : Int32) g0 g1 g2 g3 0 = some ((1 : Int32), D') := by
  rw [b0_128]
  rw [if_pos (by decide : ((2 : Int32) < (4 : Int32)))]
  rw [b0_140]
  rw [own_letV (show List.length (oH0 s0 s1) = 1 from rfl)]
  rw [own_letV (show (oH0 s0 s1) ++ ([(1, [.null, .null, .null, .int (0 : Int32)])] : Hp) = (oH1 s0 s1) from rfl)]
  obtain ⟨c, h1⟩ := own_f1_2 s0 s1 s2 s3 g0 g1 g2 g3 h0 h1
  rw [h1]
  rw [Option.bind_some]
  rw [own_letV (show List.length (oH13 s0 s1 c) = 5 from rfl)]
  rw [own_bs (show nA (oH13 s0 s1 c) 0 (8 : Int32) 8 (.int (0 : Int32)) = some (oH15 s0 s1 c) from rfl)]
  rw [own_bs (show wV (oH15 s0 s1 c) 5 0 (0 : Int32) (.int (100 : Int32)) = some (oH17 s0 s1 c) from rfl)]
  rw [own_bs (show wV (oH17 s0 s1 c) 5 0 (1 : Int32) (.int (101 : Int32)) = some (oH19 s0 s1 c) from rfl)]
  rw [own_bs (show wV (oH19 s0 s1 c) 5 0 (2 : Int32) (.int (102 : Int32)) = some (oH21 s0 s1 c) from rfl)]
  rw [own_bs (show wV (oH21 s0 s1 c) 5 0 (3 : Int32) (.int (103 : Int32)) = some (oH23 s0 s1 c) from rfl)]
  rw [own_bs (show wV (oH23 s0 s1 c) 5 0 (4 : Int32) (.int (104 : Int32)) = some (oH25 s0 s1 c) from rfl)]
  rw [own_bs (show wV (oH25 s0 s1 c) 5 0 (5 : Int32) (.int (105 : Int32)) = some (oH27 s0 s1 c) from rfl)]
  rw [own_bs (show wV (oH27 s0 s1 c) 5 0 (6 : Int32) (.int (106 : Int32)) = some (oH29 s0 s1 c) from rfl)]
  rw [own_bs (show wV (oH29 s0 s1 c) 5 0 (7 : Int32) (.int (107 : Int32)) = some (oH31 s0 s1 c) from rfl)]
  rw [own_bs (show wV (oH31 s0 s1 c) 5 0 (0 : Int32) (.int g0) = some (oH33 s0 s1 g0 c) from rfl)]
  rw [own_bs (show wV (oH33 s0 s1 g0 c) 5 0 ((0 : Int32) + (1 : Int32)) (.int g1) = some (oH35 s0 s1 g0 g1 c) from rfl)]
  rw [if_pos (by decide : ((2 : Int32) < (3 : Int32)))]
  rw [b0_238]
  rw [if_pos (by decide : ((2 : Int32) < (4 : Int32)))]
  rw [b0_253]
  rw [own_letV (show List.length (oH35 s0 s1 g0 g1 c) = 6 from rfl)]
  rw [own_bs (show nA (oH35 s0 s1 g0 g1 c) 0 (7 : Int32) 7 (.int (0 : Int32)) = some (oH37 s0 s1 g0 g1 c) from rfl)]
  rw [own_bs (show wV (oH37 s0 s1 g0 g1 c) 6 0 (0 : Int32) (.int (-1 : Int32)) = some (oH39 s0 s1 g0 g1 c) from rfl)]
  rw [own_bs (show wV (oH39 s0 s1 g0 g1 c) 6 0 (1 : Int32) (.int (-1 : Int32)) = some (oH41 s0 s1 g0 g1 c) from rfl)]
  rw [own_bs (show wV (oH41 s0 s1 g0 g1 c) 6 0 (2 : Int32) (.int (-1 : Int32)) = some (oH43 s0 s1 g0 g1 c) from rfl)]
  rw [own_bs (show wV (oH43 s0 s1 g0 g1 c) 6 0 (3 : Int32) (.int (-1 : Int32)) = some (oH45 s0 s1 g0 g1 c) from rfl)]
  rw [own_bs (show wV (oH45 s0 s1 g0 g1 c) 6 0 (4 : Int32) (.int (-1 : Int32)) = some (oH47 s0 s1 g0 g1 c) from rfl)]
  rw [own_bs (show wV (oH47 s0 s1 g0 g1 c) 6 0 (5 : Int32) (.int (-1 : Int32)) = some (oH49 s0 s1 g0 g1 c) from rfl)]
  rw [own_bs (show wV (oH49 s0 s1 g0 g1 c) 6 0 (6 : Int32) (.int (-1 : Int32)) = some (oH51 s0 s1 g0 g1 c) from rfl)]
  rw [own_bs (show ck (oH51 s0 s1 g0 g1 c) 1 1 = some 1 from rfl)]
  rw [own_f8_2_0 s0 s1 s2 s3 g0 g1 g2 g3 c]
  rw [Option.bind_some]
  rw [own_letU]
  rw [own_letU]
  rw [own_letU]
  rw [own_letU]
  rw [own_letU]
  rw [own_letU]
  rw [if_neg (by decide : ¬ ((2 : Int32) = (4 : Int32)))]
  rw [b0_374]
  rw [own_letU]
  rw [own_letU]
  rw [own_letU]
  rw [own_letU]
  rw [own_letU]
  rw [own_letU]
  rw [own_letU]
  rw [own_letU]
  rw [if_pos (by decide : ((2 : Int32) = (2 : Int32)))]
  rw [own_bs (show rI (oH53 s0 s1 g0 g1 c) 6 0 (0 : Int32) = some (((0 : Int32) + (g0 * s1)) + g1) from rfl)]
  rw [if_pos (own_r0 s0 s1 s2 s3 g0 g1 g2 g3)]
  rw [own_bs (show rI (oH53 s0 s1 g0 g1 c) 6 0 (1 : Int32) = some (-1 : Int32) from rfl)]
  rw [if_pos (by decide : ((-1 : Int32) = (-1 : Int32)))]
  rw [own_bs (show rI (oH53 s0 s1 g0 g1 c) 6 0 (2 : Int32) = some (-1 : Int32) from rfl)]
  rw [if_pos (by decide : ((-1 : Int32) = (-1 : Int32)))]
  rw [own_bs (show rI (oH53 s0 s1 g0 g1 c) 6 0 (3 : Int32) = some (-1 : Int32) from rfl)]
  rw [if_pos (by decide : ((-1 : Int32) = (-1 : Int32)))]
  rw [own_bs (show rI (oH53 s0 s1 g0 g1 c) 6 0 (4 : Int32) = some (-1 : Int32) from rfl)]
  rw [if_pos (by decide : ((-1 : Int32) = (-1 : Int32)))]
  rw [own_bs (show rI (oH53 s0 s1 g0 g1 c) 6 0 (5 : Int32) = some (-1 : Int32) from rfl)]
  rw [if_pos (by decide : ((-1 : Int32) = (-1 : Int32)))]
  rw [own_bs (show rI (oH53 s0 s1 g0 g1 c) 6 0 (6 : Int32) = some (-1 : Int32) from rfl)]
  rw [if_pos (by decide : ((-1 : Int32) = (-1 : Int32)))]
  exact ⟨_, rfl⟩
set_option maxRecDepth 20000 in
set_option maxHeartbeats 4000000 in
theorem own_f8_2_1 (s0 s1 s2 s3 g0 g1 g2 g3 : Int32) (c : Int64) : f8 (oH65 s0 s1 g0 g1 c) 1 5 (1 : Int32) 6 = some (oH66 s0 s1 g0 g1 c) := by
  rw [f8]
  rw [b8_6]
  rw [own_bs (show gR (oH65 s0 s1 g0 g1 c) 1 1 0 = some 2 from rfl)]
  rw [own_bs (show lA (oH65 s0 s1 g0 g1 c) 2 0 = some (2 : Int32) from rfl)]
  rw [if_pos (by decide : ((0 : Int32) < (2 : Int32)))]
  rw [own_bs (show gR (oH65 s0 s1 g0 g1 c) 1 1 2 = some 4 from rfl)]
  rw [own_bs (show rI (oH65 s0 s1 g0 g1 c) 4 0 (0 : Int32) = some (0 : Int32) from rfl)]
  rw [own_bs (show rI (oH65 s0 s1 g0 g1 c) 5 0 ((1 : Int32) + (0 : Int32)) = some g0 from rfl)]
  rw [own_letV (show ((0 : Int32) + (1 : Int32)) = (1 : Int32) from rfl)]
  rw [sg8_39]
  rw [own_bs (show gR (oH65 s0 s1 g0 g1 c) 1 1 0 = some 2 from rfl)]
  rw [own_bs (show lA (oH65 s0 s1 g0 g1 c) 2 0 = some (2 : Int32) from rfl)]
  rw [if_pos (by decide : ((1 : Int32) < (2 : Int32)))]
  rw [own_bs (show gR (oH65 s0 s1 g0 g1 c) 1 1 0 = some 2 from rfl)]
  rw [own_bs (show rI (oH65 s0 s1 g0 g1 c) 2 0 (1 : Int32) = some s1 from rfl)]
  rw [own_bs (show rI (oH65 s0 s1 g0 g1 c) 5 0 ((1 : Int32) + (1 : Int32)) = some g1 from rfl)]
  rw [own_bs (show wV (oH65 s0 s1 g0 g1 c) 6 0 (0 : Int32) (.int (((0 : Int32) + (g0 * s1)) + g1)) = some (oH66 s0 s1 g0 g1 c) from rfl)]
  rw [own_bs (show gR (oH66 s0 s1 g0 g1 c) 1 1 0 = some 2 from rfl)]
  rw [own_bs (show rI (oH66 s0 s1 g0 g1 c) 2 0 (0 : Int32) = some s0 from rfl)]
  rw [own_bs (show gR (oH66 s0 s1 g0 g1 c) 1 1 0 = some 2 from rfl)]
  rw [own_bs (show rI (oH66 s0 s1 g0 g1 c) 2 0 (1 : Int32) = some s1 from rfl)]
  rw [own_letU]
  try rw [show ((0 : Int32) + (1 : Int32)) = (1 : Int32) from rfl]
  try rw [show ((1 : Int32) + (1 : Int32)) = (2 : Int32) from rfl]
  rw [sg8_39]
  rw [own_bs (show gR (oH66 s0 s1 g0 g1 c) 1 1 0 = some 2 from rfl)]
  rw [own_bs (show lA (oH66 s0 s1 g0 g1 c) 2 0 = some (2 : Int32) from rfl)]
  rw [if_neg (by decide : ¬ ((2 : Int32) < (2 : Int32)))]
  rw [Option.bind_some]
  rw [own_letP1]
  rw [own_letP21]
  rw [own_letP221]
  rw [own_letP222]
  try rw [show ((0 : Int32) + (1 : Int32)) = (1 : Int32) from rfl]
  rw [b8_6]
  rw [own_bs (show gR (oH66 s0 s1 g0 g1 c) 1 1 0 = some 2 from rfl)]
  rw [own_bs (show lA (oH66 s0 s1 g0 g1 c) 2 0 = some (2 : Int32) from rfl)]
  rw [if_pos (by decide : ((1 : Int32) < (2 : Int32)))]
  rw [own_bs (show gR (oH66 s0 s1 g0 g1 c) 1 1 2 = some 4 from rfl)]
  rw [own_bs (show rI (oH66 s0 s1 g0 g1 c) 4 0 (1 : Int32) = some ((0 : Int32) + (s0 * ((((0 : Int32) + s0) + s1) - ((0 : Int32) + s0)))) from rfl)]
  rw [own_bs (show rI (oH66 s0 s1 g0 g1 c) 5 0 ((1 : Int32) + (1 : Int32)) = some g1 from rfl)]
  rw [own_letV (show ((1 : Int32) + (1 : Int32)) = (2 : Int32) from rfl)]
  rw [sg8_39]
  rw [own_bs (show gR (oH66 s0 s1 g0 g1 c) 1 1 0 = some 2 from rfl)]
  rw [own_bs (show lA (oH66 s0 s1 g0 g1 c) 2 0 = some (2 : Int32) from rfl)]
  rw [if_neg (by decide : ¬ ((2 : Int32) < (2 : Int32)))]
  rw [Option.bind_some]
  rw [own_letP1]
  rw [own_letP21]
  rw [own_letP221]
  rw [own_letP222]
  try rw [show ((1 : Int32) + (1 : Int32)) = (2 : Int32) from rfl]
  rw [b8_6]
  rw [own_bs (show gR (oH66 s0 s1 g0 g1 c) 1 1 0 = some 2 from rfl)]
  rw [own_bs (show lA (oH66 s0 s1 g0 g1 c) 2 0 = some (2 : Int32) from rfl)]
  rw [if_neg (by decide : ¬ ((2 : Int32) < (2 : Int32)))]
set_option maxRecDepth 20000 in
set_option maxHeartbeats 4000000 in
theorem own_c_2_1 (s0 s1 s2 s3 g0 g1 g2 g3 : Int32) (h0 : 0 ≤ s0.toInt ∧ s0.toInt ≤ 512) (h1 : 0 ≤ s1.toInt ∧ s1.toInt ≤ 512) : ∃ D', b0_128 (oH0 s0 s1) s0 s1 s2 s3 (2 : Int32) (1 : Int32) g0 g1 g2 g3 0 = some ((1 : Int32), D') := by
  rw [b0_128]
  rw [if_pos (by decide : ((2 : Int32) < (4 : Int32)))]
  rw [b0_140]
  rw [own_letV (show List.length (oH0 s0 s1) = 1 from rfl)]
  rw [own_letV (show (oH0 s0 s1) ++ ([(1, [.null, .null, .null, .int (0 : Int32)])] : Hp) = (oH1 s0 s1) from rfl)]
  obtain ⟨c, h1⟩ := own_f1_2 s0 s1 s2 s3 g0 g1 g2 g3 h0 h1
  rw [h1]
  rw [Option.bind_some]
  rw [own_letV (show List.length (oH13 s0 s1 c) = 5 from rfl)]
  rw [own_bs (show nA (oH13 s0 s1 c) 0 (8 : Int32) 8 (.int (0 : Int32)) = some (oH15 s0 s1 c) from rfl)]
  rw [own_bs (show wV (oH15 s0 s1 c) 5 0 (0 : Int32) (.int (100 : Int32)) = some (oH17 s0 s1 c) from rfl)]
  rw [own_bs (show wV (oH17 s0 s1 c) 5 0 (1 : Int32) (.int (101 : Int32)) = some (oH19 s0 s1 c) from rfl)]
  rw [own_bs (show wV (oH19 s0 s1 c) 5 0 (2 : Int32) (.int (102 : Int32)) = some (oH21 s0 s1 c) from rfl)]
  rw [own_bs (show wV (oH21 s0 s1 c) 5 0 (3 : Int32) (.int (103 : Int32)) = some (oH23 s0 s1 c) from rfl)]
  rw [own_bs (show wV (oH23 s0 s1 c) 5 0 (4 : Int32) (.int (104 : Int32)) = some (oH25 s0 s1 c) from rfl)]
  rw [own_bs (show wV (oH25 s0 s1 c) 5 0 (5 : Int32) (.int (105 : Int32)) = some (oH27 s0 s1 c) from rfl)]
  rw [own_bs (show wV (oH27 s0 s1 c) 5 0 (6 : Int32) (.int (106 : Int32)) = some (oH29 s0 s1 c) from rfl)]
  rw [own_bs (show wV (oH29 s0 s1 c) 5 0 (7 : Int32) (.int (107 : Int32)) = some (oH31 s0 s1 c) from rfl)]
  rw [own_bs (show wV (oH31 s0 s1 c) 5 0 (1 : Int32) (.int g0) = some (oH55 s0 s1 g0 c) from rfl)]
  rw [own_bs (show wV (oH55 s0 s1 g0 c) 5 0 ((1 : Int32) + (1 : Int32)) (.int g1) = some (oH57 s0 s1 g0 g1 c) from rfl)]
  rw [if_pos (by decide : ((2 : Int32) < (3 : Int32)))]
  rw [b0_238]
  rw [if_pos (by decide : ((2 : Int32) < (4 : Int32)))]
  rw [b0_253]
  rw [own_letV (show List.length (oH57 s0 s1 g0 g1 c) = 6 from rfl)]
  rw [own_bs (show nA (oH57 s0 s1 g0 g1 c) 0 (7 : Int32) 7 (.int (0 : Int32)) = some (oH58 s0 s1 g0 g1 c) from rfl)]
  rw [own_bs (show wV (oH58 s0 s1 g0 g1 c) 6 0 (0 : Int32) (.int (-1 : Int32)) = some (oH59 s0 s1 g0 g1 c) from rfl)]
  rw [own_bs (show wV (oH59 s0 s1 g0 g1 c) 6 0 (1 : Int32) (.int (-1 : Int32)) = some (oH60 s0 s1 g0 g1 c) from rfl)]
  rw [own_bs (show wV (oH60 s0 s1 g0 g1 c) 6 0 (2 : Int32) (.int (-1 : Int32)) = some (oH61 s0 s1 g0 g1 c) from rfl)]
  rw [own_bs (show wV (oH61 s0 s1 g0 g1 c) 6 0 (3 : Int32) (.int (-1 : Int32)) = some (oH62 s0 s1 g0 g1 c) from rfl)]
  rw [own_bs (show wV (oH62 s0 s1 g0 g1 c) 6 0 (4 : Int32) (.int (-1 : Int32)) = some (oH63 s0 s1 g0 g1 c) from rfl)]
  rw [own_bs (show wV (oH63 s0 s1 g0 g1 c) 6 0 (5 : Int32) (.int (-1 : Int32)) = some (oH64 s0 s1 g0 g1 c) from rfl)]
  rw [own_bs (show wV (oH64 s0 s1 g0 g1 c) 6 0 (6 : Int32) (.int (-1 : Int32)) = some (oH65 s0 s1 g0 g1 c) from rfl)]
  rw [own_bs (show ck (oH65 s0 s1 g0 g1 c) 1 1 = some 1 from rfl)]
  rw [own_f8_2_1 s0 s1 s2 s3 g0 g1 g2 g3 c]
  rw [Option.bind_some]
  rw [own_letU]
  rw [own_letU]
  rw [own_letU]
  rw [own_letU]
  rw [own_letU]
  rw [own_letU]
  rw [if_neg (by decide : ¬ ((2 : Int32) = (4 : Int32)))]
  rw [b0_374]
  rw [own_letU]
  rw [own_letU]
  rw [own_letU]
  rw [own_letU]
  rw [own_letU]
  rw [own_letU]
  rw [own_letU]
  rw [own_letU]
  rw [if_pos (by decide : ((2 : Int32) = (2 : Int32)))]
  rw [own_bs (show rI (oH66 s0 s1 g0 g1 c) 6 0 (0 : Int32) = some (((0 : Int32) + (g0 * s1)) + g1) from rfl)]
  rw [if_pos (own_r0 s0 s1 s2 s3 g0 g1 g2 g3)]
  rw [own_bs (show rI (oH66 s0 s1 g0 g1 c) 6 0 (1 : Int32) = some (-1 : Int32) from rfl)]
  rw [if_pos (by decide : ((-1 : Int32) = (-1 : Int32)))]
  rw [own_bs (show rI (oH66 s0 s1 g0 g1 c) 6 0 (2 : Int32) = some (-1 : Int32) from rfl)]
  rw [if_pos (by decide : ((-1 : Int32) = (-1 : Int32)))]
  rw [own_bs (show rI (oH66 s0 s1 g0 g1 c) 6 0 (3 : Int32) = some (-1 : Int32) from rfl)]
  rw [if_pos (by decide : ((-1 : Int32) = (-1 : Int32)))]
  rw [own_bs (show rI (oH66 s0 s1 g0 g1 c) 6 0 (4 : Int32) = some (-1 : Int32) from rfl)]
  rw [if_pos (by decide : ((-1 : Int32) = (-1 : Int32)))]
  rw [own_bs (show rI (oH66 s0 s1 g0 g1 c) 6 0 (5 : Int32) = some (-1 : Int32) from rfl)]
  rw [if_pos (by decide : ((-1 : Int32) = (-1 : Int32)))]
  rw [own_bs (show rI (oH66 s0 s1 g0 g1 c) 6 0 (6 : Int32) = some (-1 : Int32) from rfl)]
  rw [if_pos (by decide : ((-1 : Int32) = (-1 : Int32)))]
  exact ⟨_, rfl⟩
set_option maxRecDepth 20000 in
set_option maxHeartbeats 4000000 in
theorem own_f8_2_2 (s0 s1 s2 s3 g0 g1 g2 g3 : Int32) (c : Int64) : f8 (oH78 s0 s1 g0 g1 c) 1 5 (2 : Int32) 6 = some (oH79 s0 s1 g0 g1 c) := by
  rw [f8]
  rw [b8_6]
  rw [own_bs (show gR (oH78 s0 s1 g0 g1 c) 1 1 0 = some 2 from rfl)]
  rw [own_bs (show lA (oH78 s0 s1 g0 g1 c) 2 0 = some (2 : Int32) from rfl)]
  rw [if_pos (by decide : ((0 : Int32) < (2 : Int32)))]
  rw [own_bs (show gR (oH78 s0 s1 g0 g1 c) 1 1 2 = some 4 from rfl)]
  rw [own_bs (show rI (oH78 s0 s1 g0 g1 c) 4 0 (0 : Int32) = some (0 : Int32) from rfl)]
  rw [own_bs (show rI (oH78 s0 s1 g0 g1 c) 5 0 ((2 : Int32) + (0 : Int32)) = some g0 from rfl)]
  rw [own_letV (show ((0 : Int32) + (1 : Int32)) = (1 : Int32) from rfl)]
  rw [sg8_39]
  rw [own_bs (show gR (oH78 s0 s1 g0 g1 c) 1 1 0 = some 2 from rfl)]
  rw [own_bs (show lA (oH78 s0 s1 g0 g1 c) 2 0 = some (2 : Int32) from rfl)]
  rw [if_pos (by decide : ((1 : Int32) < (2 : Int32)))]
  rw [own_bs (show gR (oH78 s0 s1 g0 g1 c) 1 1 0 = some 2 from rfl)]
  rw [own_bs (show rI (oH78 s0 s1 g0 g1 c) 2 0 (1 : Int32) = some s1 from rfl)]
  rw [own_bs (show rI (oH78 s0 s1 g0 g1 c) 5 0 ((2 : Int32) + (1 : Int32)) = some g1 from rfl)]
  rw [own_bs (show wV (oH78 s0 s1 g0 g1 c) 6 0 (0 : Int32) (.int (((0 : Int32) + (g0 * s1)) + g1)) = some (oH79 s0 s1 g0 g1 c) from rfl)]
  rw [own_bs (show gR (oH79 s0 s1 g0 g1 c) 1 1 0 = some 2 from rfl)]
  rw [own_bs (show rI (oH79 s0 s1 g0 g1 c) 2 0 (0 : Int32) = some s0 from rfl)]
  rw [own_bs (show gR (oH79 s0 s1 g0 g1 c) 1 1 0 = some 2 from rfl)]
  rw [own_bs (show rI (oH79 s0 s1 g0 g1 c) 2 0 (1 : Int32) = some s1 from rfl)]
  rw [own_letU]
  try rw [show ((0 : Int32) + (1 : Int32)) = (1 : Int32) from rfl]
  try rw [show ((1 : Int32) + (1 : Int32)) = (2 : Int32) from rfl]
  rw [sg8_39]
  rw [own_bs (show gR (oH79 s0 s1 g0 g1 c) 1 1 0 = some 2 from rfl)]
  rw [own_bs (show lA (oH79 s0 s1 g0 g1 c) 2 0 = some (2 : Int32) from rfl)]
  rw [if_neg (by decide : ¬ ((2 : Int32) < (2 : Int32)))]
  rw [Option.bind_some]
  rw [own_letP1]
  rw [own_letP21]
  rw [own_letP221]
  rw [own_letP222]
  try rw [show ((0 : Int32) + (1 : Int32)) = (1 : Int32) from rfl]
  rw [b8_6]
  rw [own_bs (show gR (oH79 s0 s1 g0 g1 c) 1 1 0 = some 2 from rfl)]
  rw [own_bs (show lA (oH79 s0 s1 g0 g1 c) 2 0 = some (2 : Int32) from rfl)]
  rw [if_pos (by decide : ((1 : Int32) < (2 : Int32)))]
  rw [own_bs (show gR (oH79 s0 s1 g0 g1 c) 1 1 2 = some 4 from rfl)]
  rw [own_bs (show rI (oH79 s0 s1 g0 g1 c) 4 0 (1 : Int32) = some ((0 : Int32) + (s0 * ((((0 : Int32) + s0) + s1) - ((0 : Int32) + s0)))) from rfl)]
  rw [own_bs (show rI (oH79 s0 s1 g0 g1 c) 5 0 ((2 : Int32) + (1 : Int32)) = some g1 from rfl)]
  rw [own_letV (show ((1 : Int32) + (1 : Int32)) = (2 : Int32) from rfl)]
  rw [sg8_39]
  rw [own_bs (show gR (oH79 s0 s1 g0 g1 c) 1 1 0 = some 2 from rfl)]
  rw [own_bs (show lA (oH79 s0 s1 g0 g1 c) 2 0 = some (2 : Int32) from rfl)]
  rw [if_neg (by decide : ¬ ((2 : Int32) < (2 : Int32)))]
  rw [Option.bind_some]
  rw [own_letP1]
  rw [own_letP21]
  rw [own_letP221]
  rw [own_letP222]
  try rw [show ((1 : Int32) + (1 : Int32)) = (2 : Int32) from rfl]
  rw [b8_6]
  rw [own_bs (show gR (oH79 s0 s1 g0 g1 c) 1 1 0 = some 2 from rfl)]
  rw [own_bs (show lA (oH79 s0 s1 g0 g1 c) 2 0 = some (2 : Int32) from rfl)]
  rw [if_neg (by decide : ¬ ((2 : Int32) < (2 : Int32)))]
set_option maxRecDepth 20000 in
set_option maxHeartbeats 4000000 in
theorem own_c_2_2 (s0 s1 s2 s3 g0 g1 g2 g3 : Int32) (h0 : 0 ≤ s0.toInt ∧ s0.toInt ≤ 512) (h1 : 0 ≤ s1.toInt ∧ s1.toInt ≤ 512) : ∃ D', b0_128 (oH0 s0 s1) s0 s1 s2 s3 (2 : Int32) (2 : Int32) g0 g1 g2 g3 0 = some ((1 : Int32), D') := by
  rw [b0_128]
  rw [if_pos (by decide : ((2 : Int32) < (4 : Int32)))]
  rw [b0_140]
  rw [own_letV (show List.length (oH0 s0 s1) = 1 from rfl)]
  rw [own_letV (show (oH0 s0 s1) ++ ([(1, [.null, .null, .null, .int (0 : Int32)])] : Hp) = (oH1 s0 s1) from rfl)]
  obtain ⟨c, h1⟩ := own_f1_2 s0 s1 s2 s3 g0 g1 g2 g3 h0 h1
  rw [h1]
  rw [Option.bind_some]
  rw [own_letV (show List.length (oH13 s0 s1 c) = 5 from rfl)]
  rw [own_bs (show nA (oH13 s0 s1 c) 0 (8 : Int32) 8 (.int (0 : Int32)) = some (oH15 s0 s1 c) from rfl)]
  rw [own_bs (show wV (oH15 s0 s1 c) 5 0 (0 : Int32) (.int (100 : Int32)) = some (oH17 s0 s1 c) from rfl)]
  rw [own_bs (show wV (oH17 s0 s1 c) 5 0 (1 : Int32) (.int (101 : Int32)) = some (oH19 s0 s1 c) from rfl)]
  rw [own_bs (show wV (oH19 s0 s1 c) 5 0 (2 : Int32) (.int (102 : Int32)) = some (oH21 s0 s1 c) from rfl)]
  rw [own_bs (show wV (oH21 s0 s1 c) 5 0 (3 : Int32) (.int (103 : Int32)) = some (oH23 s0 s1 c) from rfl)]
  rw [own_bs (show wV (oH23 s0 s1 c) 5 0 (4 : Int32) (.int (104 : Int32)) = some (oH25 s0 s1 c) from rfl)]
  rw [own_bs (show wV (oH25 s0 s1 c) 5 0 (5 : Int32) (.int (105 : Int32)) = some (oH27 s0 s1 c) from rfl)]
  rw [own_bs (show wV (oH27 s0 s1 c) 5 0 (6 : Int32) (.int (106 : Int32)) = some (oH29 s0 s1 c) from rfl)]
  rw [own_bs (show wV (oH29 s0 s1 c) 5 0 (7 : Int32) (.int (107 : Int32)) = some (oH31 s0 s1 c) from rfl)]
  rw [own_bs (show wV (oH31 s0 s1 c) 5 0 (2 : Int32) (.int g0) = some (oH68 s0 s1 g0 c) from rfl)]
  rw [own_bs (show wV (oH68 s0 s1 g0 c) 5 0 ((2 : Int32) + (1 : Int32)) (.int g1) = some (oH70 s0 s1 g0 g1 c) from rfl)]
  rw [if_pos (by decide : ((2 : Int32) < (3 : Int32)))]
  rw [b0_238]
  rw [if_pos (by decide : ((2 : Int32) < (4 : Int32)))]
  rw [b0_253]
  rw [own_letV (show List.length (oH70 s0 s1 g0 g1 c) = 6 from rfl)]
  rw [own_bs (show nA (oH70 s0 s1 g0 g1 c) 0 (7 : Int32) 7 (.int (0 : Int32)) = some (oH71 s0 s1 g0 g1 c) from rfl)]
  rw [own_bs (show wV (oH71 s0 s1 g0 g1 c) 6 0 (0 : Int32) (.int (-1 : Int32)) = some (oH72 s0 s1 g0 g1 c) from rfl)]
  rw [own_bs (show wV (oH72 s0 s1 g0 g1 c) 6 0 (1 : Int32) (.int (-1 : Int32)) = some (oH73 s0 s1 g0 g1 c) from rfl)]
  rw [own_bs (show wV (oH73 s0 s1 g0 g1 c) 6 0 (2 : Int32) (.int (-1 : Int32)) = some (oH74 s0 s1 g0 g1 c) from rfl)]
  rw [own_bs (show wV (oH74 s0 s1 g0 g1 c) 6 0 (3 : Int32) (.int (-1 : Int32)) = some (oH75 s0 s1 g0 g1 c) from rfl)]
  rw [own_bs (show wV (oH75 s0 s1 g0 g1 c) 6 0 (4 : Int32) (.int (-1 : Int32)) = some (oH76 s0 s1 g0 g1 c) from rfl)]
  rw [own_bs (show wV (oH76 s0 s1 g0 g1 c) 6 0 (5 : Int32) (.int (-1 : Int32)) = some (oH77 s0 s1 g0 g1 c) from rfl)]
  rw [own_bs (show wV (oH77 s0 s1 g0 g1 c) 6 0 (6 : Int32) (.int (-1 : Int32)) = some (oH78 s0 s1 g0 g1 c) from rfl)]
  rw [own_bs (show ck (oH78 s0 s1 g0 g1 c) 1 1 = some 1 from rfl)]
  rw [own_f8_2_2 s0 s1 s2 s3 g0 g1 g2 g3 c]
  rw [Option.bind_some]
  rw [own_letU]
  rw [own_letU]
  rw [own_letU]
  rw [own_letU]
  rw [own_letU]
  rw [own_letU]
  rw [if_neg (by decide : ¬ ((2 : Int32) = (4 : Int32)))]
  rw [b0_374]
  rw [own_letU]
  rw [own_letU]
  rw [own_letU]
  rw [own_letU]
  rw [own_letU]
  rw [own_letU]
  rw [own_letU]
  rw [own_letU]
  rw [if_pos (by decide : ((2 : Int32) = (2 : Int32)))]
  rw [own_bs (show rI (oH79 s0 s1 g0 g1 c) 6 0 (0 : Int32) = some (((0 : Int32) + (g0 * s1)) + g1) from rfl)]
  rw [if_pos (own_r0 s0 s1 s2 s3 g0 g1 g2 g3)]
  rw [own_bs (show rI (oH79 s0 s1 g0 g1 c) 6 0 (1 : Int32) = some (-1 : Int32) from rfl)]
  rw [if_pos (by decide : ((-1 : Int32) = (-1 : Int32)))]
  rw [own_bs (show rI (oH79 s0 s1 g0 g1 c) 6 0 (2 : Int32) = some (-1 : Int32) from rfl)]
  rw [if_pos (by decide : ((-1 : Int32) = (-1 : Int32)))]
  rw [own_bs (show rI (oH79 s0 s1 g0 g1 c) 6 0 (3 : Int32) = some (-1 : Int32) from rfl)]
  rw [if_pos (by decide : ((-1 : Int32) = (-1 : Int32)))]
  rw [own_bs (show rI (oH79 s0 s1 g0 g1 c) 6 0 (4 : Int32) = some (-1 : Int32) from rfl)]
  rw [if_pos (by decide : ((-1 : Int32) = (-1 : Int32)))]
  rw [own_bs (show rI (oH79 s0 s1 g0 g1 c) 6 0 (5 : Int32) = some (-1 : Int32) from rfl)]
  rw [if_pos (by decide : ((-1 : Int32) = (-1 : Int32)))]
  rw [own_bs (show rI (oH79 s0 s1 g0 g1 c) 6 0 (6 : Int32) = some (-1 : Int32) from rfl)]
  rw [if_pos (by decide : ((-1 : Int32) = (-1 : Int32)))]
  exact ⟨_, rfl⟩
set_option maxRecDepth 20000 in
set_option maxHeartbeats 4000000 in
theorem own_f8_2_3 (s0 s1 s2 s3 g0 g1 g2 g3 : Int32) (c : Int64) : f8 (oH91 s0 s1 g0 g1 c) 1 5 (3 : Int32) 6 = some (oH92 s0 s1 g0 g1 c) := by
  rw [f8]
  rw [b8_6]
  rw [own_bs (show gR (oH91 s0 s1 g0 g1 c) 1 1 0 = some 2 from rfl)]
  rw [own_bs (show lA (oH91 s0 s1 g0 g1 c) 2 0 = some (2 : Int32) from rfl)]
  rw [if_pos (by decide : ((0 : Int32) < (2 : Int32)))]
  rw [own_bs (show gR (oH91 s0 s1 g0 g1 c) 1 1 2 = some 4 from rfl)]
  rw [own_bs (show rI (oH91 s0 s1 g0 g1 c) 4 0 (0 : Int32) = some (0 : Int32) from rfl)]
  rw [own_bs (show rI (oH91 s0 s1 g0 g1 c) 5 0 ((3 : Int32) + (0 : Int32)) = some g0 from rfl)]
  rw [own_letV (show ((0 : Int32) + (1 : Int32)) = (1 : Int32) from rfl)]
  rw [sg8_39]
  rw [own_bs (show gR (oH91 s0 s1 g0 g1 c) 1 1 0 = some 2 from rfl)]
  rw [own_bs (show lA (oH91 s0 s1 g0 g1 c) 2 0 = some (2 : Int32) from rfl)]
  rw [if_pos (by decide : ((1 : Int32) < (2 : Int32)))]
  rw [own_bs (show gR (oH91 s0 s1 g0 g1 c) 1 1 0 = some 2 from rfl)]
  rw [own_bs (show rI (oH91 s0 s1 g0 g1 c) 2 0 (1 : Int32) = some s1 from rfl)]
  rw [own_bs (show rI (oH91 s0 s1 g0 g1 c) 5 0 ((3 : Int32) + (1 : Int32)) = some g1 from rfl)]
  rw [own_bs (show wV (oH91 s0 s1 g0 g1 c) 6 0 (0 : Int32) (.int (((0 : Int32) + (g0 * s1)) + g1)) = some (oH92 s0 s1 g0 g1 c) from rfl)]
  rw [own_bs (show gR (oH92 s0 s1 g0 g1 c) 1 1 0 = some 2 from rfl)]
  rw [own_bs (show rI (oH92 s0 s1 g0 g1 c) 2 0 (0 : Int32) = some s0 from rfl)]
  rw [own_bs (show gR (oH92 s0 s1 g0 g1 c) 1 1 0 = some 2 from rfl)]
  rw [own_bs (show rI (oH92 s0 s1 g0 g1 c) 2 0 (1 : Int32) = some s1 from rfl)]
  rw [own_letU]
  try rw [show ((0 : Int32) + (1 : Int32)) = (1 : Int32) from rfl]
  try rw [show ((1 : Int32) + (1 : Int32)) = (2 : Int32) from rfl]
  rw [sg8_39]
  rw [own_bs (show gR (oH92 s0 s1 g0 g1 c) 1 1 0 = some 2 from rfl)]
  rw [own_bs (show lA (oH92 s0 s1 g0 g1 c) 2 0 = some (2 : Int32) from rfl)]
  rw [if_neg (by decide : ¬ ((2 : Int32) < (2 : Int32)))]
  rw [Option.bind_some]
  rw [own_letP1]
  rw [own_letP21]
  rw [own_letP221]
  rw [own_letP222]
  try rw [show ((0 : Int32) + (1 : Int32)) = (1 : Int32) from rfl]
  rw [b8_6]
  rw [own_bs (show gR (oH92 s0 s1 g0 g1 c) 1 1 0 = some 2 from rfl)]
  rw [own_bs (show lA (oH92 s0 s1 g0 g1 c) 2 0 = some (2 : Int32) from rfl)]
  rw [if_pos (by decide : ((1 : Int32) < (2 : Int32)))]
  rw [own_bs (show gR (oH92 s0 s1 g0 g1 c) 1 1 2 = some 4 from rfl)]
  rw [own_bs (show rI (oH92 s0 s1 g0 g1 c) 4 0 (1 : Int32) = some ((0 : Int32) + (s0 * ((((0 : Int32) + s0) + s1) - ((0 : Int32) + s0)))) from rfl)]
  rw [own_bs (show rI (oH92 s0 s1 g0 g1 c) 5 0 ((3 : Int32) + (1 : Int32)) = some g1 from rfl)]
  rw [own_letV (show ((1 : Int32) + (1 : Int32)) = (2 : Int32) from rfl)]
  rw [sg8_39]
  rw [own_bs (show gR (oH92 s0 s1 g0 g1 c) 1 1 0 = some 2 from rfl)]
  rw [own_bs (show lA (oH92 s0 s1 g0 g1 c) 2 0 = some (2 : Int32) from rfl)]
  rw [if_neg (by decide : ¬ ((2 : Int32) < (2 : Int32)))]
  rw [Option.bind_some]
  rw [own_letP1]
  rw [own_letP21]
  rw [own_letP221]
  rw [own_letP222]
  try rw [show ((1 : Int32) + (1 : Int32)) = (2 : Int32) from rfl]
  rw [b8_6]
  rw [own_bs (show gR (oH92 s0 s1 g0 g1 c) 1 1 0 = some 2 from rfl)]
  rw [own_bs (show lA (oH92 s0 s1 g0 g1 c) 2 0 = some (2 : Int32) from rfl)]
  rw [if_neg (by decide : ¬ ((2 : Int32) < (2 : Int32)))]
set_option maxRecDepth 20000 in
set_option maxHeartbeats 4000000 in
theorem own_c_2_3 (s0 s1 s2 s3 g0 g1 g2 g3 : Int32) (h0 : 0 ≤ s0.toInt ∧ s0.toInt ≤ 512) (h1 : 0 ≤ s1.toInt ∧ s1.toInt ≤ 512) : ∃ D', b0_128 (oH0 s0 s1) s0 s1 s2 s3 (2 : Int32) (3 : Int32) g0 g1 g2 g3 0 = some ((1 : Int32), D') := by
  rw [b0_128]
  rw [if_pos (by decide : ((2 : Int32) < (4 : Int32)))]
  rw [b0_140]
  rw [own_letV (show List.length (oH0 s0 s1) = 1 from rfl)]
  rw [own_letV (show (oH0 s0 s1) ++ ([(1, [.null, .null, .null, .int (0 : Int32)])] : Hp) = (oH1 s0 s1) from rfl)]
  obtain ⟨c, h1⟩ := own_f1_2 s0 s1 s2 s3 g0 g1 g2 g3 h0 h1
  rw [h1]
  rw [Option.bind_some]
  rw [own_letV (show List.length (oH13 s0 s1 c) = 5 from rfl)]
  rw [own_bs (show nA (oH13 s0 s1 c) 0 (8 : Int32) 8 (.int (0 : Int32)) = some (oH15 s0 s1 c) from rfl)]
  rw [own_bs (show wV (oH15 s0 s1 c) 5 0 (0 : Int32) (.int (100 : Int32)) = some (oH17 s0 s1 c) from rfl)]
  rw [own_bs (show wV (oH17 s0 s1 c) 5 0 (1 : Int32) (.int (101 : Int32)) = some (oH19 s0 s1 c) from rfl)]
  rw [own_bs (show wV (oH19 s0 s1 c) 5 0 (2 : Int32) (.int (102 : Int32)) = some (oH21 s0 s1 c) from rfl)]
  rw [own_bs (show wV (oH21 s0 s1 c) 5 0 (3 : Int32) (.int (103 : Int32)) = some (oH23 s0 s1 c) from rfl)]
  rw [own_bs (show wV (oH23 s0 s1 c) 5 0 (4 : Int32) (.int (104 : Int32)) = some (oH25 s0 s1 c) from rfl)]
  rw [own_bs (show wV (oH25 s0 s1 c) 5 0 (5 : Int32) (.int (105 : Int32)) = some (oH27 s0 s1 c) from rfl)]
  rw [own_bs (show wV (oH27 s0 s1 c) 5 0 (6 : Int32) (.int (106 : Int32)) = some (oH29 s0 s1 c) from rfl)]
  rw [own_bs (show wV (oH29 s0 s1 c) 5 0 (7 : Int32) (.int (107 : Int32)) = some (oH31 s0 s1 c) from rfl)]
  rw [own_bs (show wV (oH31 s0 s1 c) 5 0 (3 : Int32) (.int g0) = some (oH81 s0 s1 g0 c) from rfl)]
  rw [own_bs (show wV (oH81 s0 s1 g0 c) 5 0 ((3 : Int32) + (1 : Int32)) (.int g1) = some (oH83 s0 s1 g0 g1 c) from rfl)]
  rw [if_pos (by decide : ((2 : Int32) < (3 : Int32)))]
  rw [b0_238]
  rw [if_pos (by decide : ((2 : Int32) < (4 : Int32)))]
  rw [b0_253]
  rw [own_letV (show List.length (oH83 s0 s1 g0 g1 c) = 6 from rfl)]
  rw [own_bs (show nA (oH83 s0 s1 g0 g1 c) 0 (7 : Int32) 7 (.int (0 : Int32)) = some (oH84 s0 s1 g0 g1 c) from rfl)]
  rw [own_bs (show wV (oH84 s0 s1 g0 g1 c) 6 0 (0 : Int32) (.int (-1 : Int32)) = some (oH85 s0 s1 g0 g1 c) from rfl)]
  rw [own_bs (show wV (oH85 s0 s1 g0 g1 c) 6 0 (1 : Int32) (.int (-1 : Int32)) = some (oH86 s0 s1 g0 g1 c) from rfl)]
  rw [own_bs (show wV (oH86 s0 s1 g0 g1 c) 6 0 (2 : Int32) (.int (-1 : Int32)) = some (oH87 s0 s1 g0 g1 c) from rfl)]
  rw [own_bs (show wV (oH87 s0 s1 g0 g1 c) 6 0 (3 : Int32) (.int (-1 : Int32)) = some (oH88 s0 s1 g0 g1 c) from rfl)]
  rw [own_bs (show wV (oH88 s0 s1 g0 g1 c) 6 0 (4 : Int32) (.int (-1 : Int32)) = some (oH89 s0 s1 g0 g1 c) from rfl)]
  rw [own_bs (show wV (oH89 s0 s1 g0 g1 c) 6 0 (5 : Int32) (.int (-1 : Int32)) = some (oH90 s0 s1 g0 g1 c) from rfl)]
  rw [own_bs (show wV (oH90 s0 s1 g0 g1 c) 6 0 (6 : Int32) (.int (-1 : Int32)) = some (oH91 s0 s1 g0 g1 c) from rfl)]
  rw [own_bs (show ck (oH91 s0 s1 g0 g1 c) 1 1 = some 1 from rfl)]
  rw [own_f8_2_3 s0 s1 s2 s3 g0 g1 g2 g3 c]
  rw [Option.bind_some]
  rw [own_letU]
  rw [own_letU]
  rw [own_letU]
  rw [own_letU]
  rw [own_letU]
  rw [own_letU]
  rw [if_neg (by decide : ¬ ((2 : Int32) = (4 : Int32)))]
  rw [b0_374]
  rw [own_letU]
  rw [own_letU]
  rw [own_letU]
  rw [own_letU]
  rw [own_letU]
  rw [own_letU]
  rw [own_letU]
  rw [own_letU]
  rw [if_pos (by decide : ((2 : Int32) = (2 : Int32)))]
  rw [own_bs (show rI (oH92 s0 s1 g0 g1 c) 6 0 (0 : Int32) = some (((0 : Int32) + (g0 * s1)) + g1) from rfl)]
  rw [if_pos (own_r0 s0 s1 s2 s3 g0 g1 g2 g3)]
  rw [own_bs (show rI (oH92 s0 s1 g0 g1 c) 6 0 (1 : Int32) = some (-1 : Int32) from rfl)]
  rw [if_pos (by decide : ((-1 : Int32) = (-1 : Int32)))]
  rw [own_bs (show rI (oH92 s0 s1 g0 g1 c) 6 0 (2 : Int32) = some (-1 : Int32) from rfl)]
  rw [if_pos (by decide : ((-1 : Int32) = (-1 : Int32)))]
  rw [own_bs (show rI (oH92 s0 s1 g0 g1 c) 6 0 (3 : Int32) = some (-1 : Int32) from rfl)]
  rw [if_pos (by decide : ((-1 : Int32) = (-1 : Int32)))]
  rw [own_bs (show rI (oH92 s0 s1 g0 g1 c) 6 0 (4 : Int32) = some (-1 : Int32) from rfl)]
  rw [if_pos (by decide : ((-1 : Int32) = (-1 : Int32)))]
  rw [own_bs (show rI (oH92 s0 s1 g0 g1 c) 6 0 (5 : Int32) = some (-1 : Int32) from rfl)]
  rw [if_pos (by decide : ((-1 : Int32) = (-1 : Int32)))]
  rw [own_bs (show rI (oH92 s0 s1 g0 g1 c) 6 0 (6 : Int32) = some (-1 : Int32) from rfl)]
  rw [if_pos (by decide : ((-1 : Int32) = (-1 : Int32)))]
  exact ⟨_, rfl⟩
set_option maxRecDepth 20000 in
set_option maxHeartbeats 4000000 in
theorem own_f1_3 (s0 s1 s2 s3 g0 g1 g2 g3 : Int32) (h0 : 0 ≤ s0.toInt ∧ s0.toInt ≤ 512) (h1 : 0 ≤ s1.toInt ∧ s1.toInt ≤ 512) (h2 : 0 ≤ s2.toInt ∧ s2.toInt ≤ 512) : ∃ c : Int64, f1 (oH94 s0 s1 s2) 1 0 = some (oH112 s0 s1 s2 c) := by
  obtain ⟨c, hp, hc⟩ := own_pc3 (oH94 s0 s1 s2) 0 s0 s1 s2 rfl h0 h1 h2
  refine ⟨c, ?_⟩
  rw [f1]
  rw [hp]
  rw [Option.bind_some]
  rw [own_letP1]
  rw [own_letP2]
  rw [if_neg (own_big c hc)]
  rw [own_letV (show List.length (oH94 s0 s1 s2) = 2 from rfl)]
  rw [own_bs (show cA' (oH94 s0 s1 s2) 0 0 8 = some (oH95 s0 s1 s2) from rfl)]
  rw [own_bs (show ck (oH95 s0 s1 s2) 2 0 = some 0 from rfl)]
  rw [own_bs (show pV (oH95 s0 s1 s2) 1 1 0 (.ref 2) = some (oH96 s0 s1 s2) from rfl)]
  rw [own_bs (show lA (oH96 s0 s1 s2) 0 0 = some (3 : Int32) from rfl)]
  rw [own_letV (show List.length (oH96 s0 s1 s2) = 3 from rfl)]
  rw [own_bs (show nA (oH96 s0 s1 s2) 0 ((3 : Int32) + (1 : Int32)) 8 (.int (0 : Int32)) = some (oH98 s0 s1 s2) from rfl)]
  rw [own_bs (show pV (oH98 s0 s1 s2) 1 1 1 (.ref 3) = some (oH99 s0 s1 s2) from rfl)]
  rw [b1_55]
  rw [own_bs (show lA (oH99 s0 s1 s2) 0 0 = some (3 : Int32) from rfl)]
  rw [if_pos (by decide : ((0 : Int32) < (3 : Int32)))]
  rw [own_bs (show gR (oH99 s0 s1 s2) 1 1 1 = some 3 from rfl)]
  rw [own_bs (show gR (oH99 s0 s1 s2) 1 1 1 = some 3 from rfl)]
  rw [own_bs (show rI (oH99 s0 s1 s2) 3 0 (0 : Int32) = some (0 : Int32) from rfl)]
  rw [own_bs (show rI (oH99 s0 s1 s2) 0 0 (0 : Int32) = some s0 from rfl)]
  rw [own_bs (show wV (oH99 s0 s1 s2) 3 0 ((0 : Int32) + (1 : Int32)) (.int ((0 : Int32) + s0)) = some (oH101 s0 s1 s2) from rfl)]
  try rw [show ((0 : Int32) + (1 : Int32)) = (1 : Int32) from rfl]
  rw [b1_55]
  rw [own_bs (show lA (oH101 s0 s1 s2) 0 0 = some (3 : Int32) from rfl)]
  rw [if_pos (by decide : ((1 : Int32) < (3 : Int32)))]
  rw [own_bs (show gR (oH101 s0 s1 s2) 1 1 1 = some 3 from rfl)]
  rw [own_bs (show gR (oH101 s0 s1 s2) 1 1 1 = some 3 from rfl)]
  rw [own_bs (show rI (oH101 s0 s1 s2) 3 0 (1 : Int32) = some ((0 : Int32) + s0) from rfl)]
  rw [own_bs (show rI (oH101 s0 s1 s2) 0 0 (1 : Int32) = some s1 from rfl)]
  rw [own_bs (show wV (oH101 s0 s1 s2) 3 0 ((1 : Int32) + (1 : Int32)) (.int (((0 : Int32) + s0) + s1)) = some (oH103 s0 s1 s2) from rfl)]
  try rw [show ((1 : Int32) + (1 : Int32)) = (2 : Int32) from rfl]
  rw [b1_55]
  rw [own_bs (show lA (oH103 s0 s1 s2) 0 0 = some (3 : Int32) from rfl)]
  rw [if_pos (by decide : ((2 : Int32) < (3 : Int32)))]
  rw [own_bs (show gR (oH103 s0 s1 s2) 1 1 1 = some 3 from rfl)]
  rw [own_bs (show gR (oH103 s0 s1 s2) 1 1 1 = some 3 from rfl)]
  rw [own_bs (show rI (oH103 s0 s1 s2) 3 0 (2 : Int32) = some (((0 : Int32) + s0) + s1) from rfl)]
  rw [own_bs (show rI (oH103 s0 s1 s2) 0 0 (2 : Int32) = some s2 from rfl)]
  rw [own_bs (show wV (oH103 s0 s1 s2) 3 0 ((2 : Int32) + (1 : Int32)) (.int ((((0 : Int32) + s0) + s1) + s2)) = some (oH105 s0 s1 s2) from rfl)]
  try rw [show ((2 : Int32) + (1 : Int32)) = (3 : Int32) from rfl]
  rw [b1_55]
  rw [own_bs (show lA (oH105 s0 s1 s2) 0 0 = some (3 : Int32) from rfl)]
  rw [if_neg (by decide : ¬ ((3 : Int32) < (3 : Int32)))]
  rw [own_bs (show lA (oH105 s0 s1 s2) 0 0 = some (3 : Int32) from rfl)]
  rw [own_letV (show List.length (oH105 s0 s1 s2) = 4 from rfl)]
  rw [own_bs (show nA (oH105 s0 s1 s2) 0 (3 : Int32) 8 (.int (0 : Int32)) = some (oH106 s0 s1 s2) from rfl)]
  rw [own_bs (show pV (oH106 s0 s1 s2) 1 1 2 (.ref 4) = some (oH107 s0 s1 s2) from rfl)]
  rw [b1_100]
  rw [own_bs (show lA (oH107 s0 s1 s2) 0 0 = some (3 : Int32) from rfl)]
  rw [if_pos (by decide : ((1 : Int32) < (3 : Int32)))]
  rw [own_bs (show gR (oH107 s0 s1 s2) 1 1 2 = some 4 from rfl)]
  rw [own_bs (show gR (oH107 s0 s1 s2) 1 1 2 = some 4 from rfl)]
  rw [own_bs (show rI (oH107 s0 s1 s2) 4 0 ((1 : Int32) - (1 : Int32)) = some (0 : Int32) from rfl)]
  rw [own_bs (show rI (oH107 s0 s1 s2) 0 0 ((1 : Int32) - (1 : Int32)) = some s0 from rfl)]
  rw [own_bs (show gR (oH107 s0 s1 s2) 1 1 1 = some 3 from rfl)]
  rw [own_bs (show lA (oH107 s0 s1 s2) 0 0 = some (3 : Int32) from rfl)]
  rw [own_bs (show rI (oH107 s0 s1 s2) 3 0 (3 : Int32) = some ((((0 : Int32) + s0) + s1) + s2) from rfl)]
  rw [own_bs (show gR (oH107 s0 s1 s2) 1 1 1 = some 3 from rfl)]
  rw [own_bs (show rI (oH107 s0 s1 s2) 3 0 (1 : Int32) = some ((0 : Int32) + s0) from rfl)]
  rw [own_bs (show wV (oH107 s0 s1 s2) 4 0 (1 : Int32) (.int ((0 : Int32) + (s0 * (((((0 : Int32) + s0) + s1) + s2) - ((0 : Int32) + s0))))) = some (oH109 s0 s1 s2) from rfl)]
  try rw [show ((1 : Int32) + (1 : Int32)) = (2 : Int32) from rfl]
  rw [b1_100]
  rw [own_bs (show lA (oH109 s0 s1 s2) 0 0 = some (3 : Int32) from rfl)]
  rw [if_pos (by decide : ((2 : Int32) < (3 : Int32)))]
  rw [own_bs (show gR (oH109 s0 s1 s2) 1 1 2 = some 4 from rfl)]
  rw [own_bs (show gR (oH109 s0 s1 s2) 1 1 2 = some 4 from rfl)]
  rw [own_bs (show rI (oH109 s0 s1 s2) 4 0 ((2 : Int32) - (1 : Int32)) = some ((0 : Int32) + (s0 * (((((0 : Int32) + s0) + s1) + s2) - ((0 : Int32) + s0)))) from rfl)]
  rw [own_bs (show rI (oH109 s0 s1 s2) 0 0 ((2 : Int32) - (1 : Int32)) = some s1 from rfl)]
  rw [own_bs (show gR (oH109 s0 s1 s2) 1 1 1 = some 3 from rfl)]
  rw [own_bs (show lA (oH109 s0 s1 s2) 0 0 = some (3 : Int32) from rfl)]
  rw [own_bs (show rI (oH109 s0 s1 s2) 3 0 (3 : Int32) = some ((((0 : Int32) + s0) + s1) + s2) from rfl)]
  rw [own_bs (show gR (oH109 s0 s1 s2) 1 1 1 = some 3 from rfl)]
  rw [own_bs (show rI (oH109 s0 s1 s2) 3 0 (2 : Int32) = some (((0 : Int32) + s0) + s1) from rfl)]
  rw [own_bs (show wV (oH109 s0 s1 s2) 4 0 (2 : Int32) (.int (((0 : Int32) + (s0 * (((((0 : Int32) + s0) + s1) + s2) - ((0 : Int32) + s0)))) + (s1 * (((((0 : Int32) + s0) + s1) + s2) - (((0 : Int32) + s0) + s1))))) = some (oH111 s0 s1 s2) from rfl)]
  try rw [show ((2 : Int32) + (1 : Int32)) = (3 : Int32) from rfl]
  rw [b1_100]
  rw [own_bs (show lA (oH111 s0 s1 s2) 0 0 = some (3 : Int32) from rfl)]
  rw [if_neg (by decide : ¬ ((3 : Int32) < (3 : Int32)))]
  rw [own_bs (show pV (oH111 s0 s1 s2) 1 1 3 (.int (c.toInt32)) = some (oH112 s0 s1 s2 c) from rfl)]
set_option maxRecDepth 20000 in
set_option maxHeartbeats 4000000 in
theorem own_f8_3_0 (s0 s1 s2 s3 g0 g1 g2 g3 : Int32) (c : Int64) : f8 (oH133 s0 s1 s2 g0 g1 g2 c) 1 5 (0 : Int32) 6 = some (oH138 s0 s1 s2 g0 g1 g2 c) := by
  rw [f8]
  rw [b8_6]
  rw [own_bs (show gR (oH133 s0 s1 s2 g0 g1 g2 c) 1 1 0 = some 2 from rfl)]
  rw [own_bs (show lA (oH133 s0 s1 s2 g0 g1 g2 c) 2 0 = some (3 : Int32) from rfl)]
  rw [if_pos (by decide : ((0 : Int32) < (3 : Int32)))]
  rw [own_bs (show gR (oH133 s0 s1 s2 g0 g1 g2 c) 1 1 2 = some 4 from rfl)]
  rw [own_bs (show rI (oH133 s0 s1 s2 g0 g1 g2 c) 4 0 (0 : Int32) = some (0 : Int32) from rfl)]
  rw [own_bs (show rI (oH133 s0 s1 s2 g0 g1 g2 c) 5 0 ((0 : Int32) + (0 : Int32)) = some g0 from rfl)]
  rw [own_letV (show ((0 : Int32) + (1 : Int32)) = (1 : Int32) from rfl)]
  rw [sg8_39]
  rw [own_bs (show gR (oH133 s0 s1 s2 g0 g1 g2 c) 1 1 0 = some 2 from rfl)]
  rw [own_bs (show lA (oH133 s0 s1 s2 g0 g1 g2 c) 2 0 = some (3 : Int32) from rfl)]
  rw [if_pos (by decide : ((1 : Int32) < (3 : Int32)))]
  rw [own_bs (show gR (oH133 s0 s1 s2 g0 g1 g2 c) 1 1 0 = some 2 from rfl)]
  rw [own_bs (show rI (oH133 s0 s1 s2 g0 g1 g2 c) 2 0 (1 : Int32) = some s1 from rfl)]
  rw [own_bs (show rI (oH133 s0 s1 s2 g0 g1 g2 c) 5 0 ((0 : Int32) + (1 : Int32)) = some g1 from rfl)]
  rw [own_bs (show wV (oH133 s0 s1 s2 g0 g1 g2 c) 6 0 (0 : Int32) (.int (((0 : Int32) + (g0 * s1)) + g1)) = some (oH134 s0 s1 s2 g0 g1 g2 c) from rfl)]
  rw [own_bs (show gR (oH134 s0 s1 s2 g0 g1 g2 c) 1 1 0 = some 2 from rfl)]
  rw [own_bs (show rI (oH134 s0 s1 s2 g0 g1 g2 c) 2 0 (0 : Int32) = some s0 from rfl)]
  rw [own_bs (show gR (oH134 s0 s1 s2 g0 g1 g2 c) 1 1 0 = some 2 from rfl)]
  rw [own_bs (show rI (oH134 s0 s1 s2 g0 g1 g2 c) 2 0 (1 : Int32) = some s1 from rfl)]
  rw [own_letU]
  try rw [show ((0 : Int32) + (1 : Int32)) = (1 : Int32) from rfl]
  try rw [show ((1 : Int32) + (1 : Int32)) = (2 : Int32) from rfl]
  rw [sg8_39]
  rw [own_bs (show gR (oH134 s0 s1 s2 g0 g1 g2 c) 1 1 0 = some 2 from rfl)]
  rw [own_bs (show lA (oH134 s0 s1 s2 g0 g1 g2 c) 2 0 = some (3 : Int32) from rfl)]
  rw [if_pos (by decide : ((2 : Int32) < (3 : Int32)))]
  rw [own_bs (show gR (oH134 s0 s1 s2 g0 g1 g2 c) 1 1 0 = some 2 from rfl)]
  rw [own_bs (show rI (oH134 s0 s1 s2 g0 g1 g2 c) 2 0 (2 : Int32) = some s2 from rfl)]
  rw [own_bs (show rI (oH134 s0 s1 s2 g0 g1 g2 c) 5 0 ((0 : Int32) + (2 : Int32)) = some g2 from rfl)]
  rw [own_bs (show wV (oH134 s0 s1 s2 g0 g1 g2 c) 6 0 (1 : Int32) (.int ((((0 : Int32) + (s0 * s1)) + (g0 * s2)) + g2)) = some (oH136 s0 s1 s2 g0 g1 g2 c) from rfl)]
  rw [own_bs (show gR (oH136 s0 s1 s2 g0 g1 g2 c) 1 1 0 = some 2 from rfl)]
  rw [own_bs (show rI (oH136 s0 s1 s2 g0 g1 g2 c) 2 0 (0 : Int32) = some s0 from rfl)]
  rw [own_bs (show gR (oH136 s0 s1 s2 g0 g1 g2 c) 1 1 0 = some 2 from rfl)]
  rw [own_bs (show rI (oH136 s0 s1 s2 g0 g1 g2 c) 2 0 (2 : Int32) = some s2 from rfl)]
  rw [own_letU]
  try rw [show ((1 : Int32) + (1 : Int32)) = (2 : Int32) from rfl]
  try rw [show ((2 : Int32) + (1 : Int32)) = (3 : Int32) from rfl]
  rw [sg8_39]
  rw [own_bs (show gR (oH136 s0 s1 s2 g0 g1 g2 c) 1 1 0 = some 2 from rfl)]
  rw [own_bs (show lA (oH136 s0 s1 s2 g0 g1 g2 c) 2 0 = some (3 : Int32) from rfl)]
  rw [if_neg (by decide : ¬ ((3 : Int32) < (3 : Int32)))]
  rw [Option.bind_some]
  rw [own_letP1]
  rw [own_letP21]
  rw [own_letP221]
  rw [own_letP222]
  try rw [show ((0 : Int32) + (1 : Int32)) = (1 : Int32) from rfl]
  rw [b8_6]
  rw [own_bs (show gR (oH136 s0 s1 s2 g0 g1 g2 c) 1 1 0 = some 2 from rfl)]
  rw [own_bs (show lA (oH136 s0 s1 s2 g0 g1 g2 c) 2 0 = some (3 : Int32) from rfl)]
  rw [if_pos (by decide : ((1 : Int32) < (3 : Int32)))]
  rw [own_bs (show gR (oH136 s0 s1 s2 g0 g1 g2 c) 1 1 2 = some 4 from rfl)]
  rw [own_bs (show rI (oH136 s0 s1 s2 g0 g1 g2 c) 4 0 (1 : Int32) = some ((0 : Int32) + (s0 * (((((0 : Int32) + s0) + s1) + s2) - ((0 : Int32) + s0)))) from rfl)]
  rw [own_bs (show rI (oH136 s0 s1 s2 g0 g1 g2 c) 5 0 ((0 : Int32) + (1 : Int32)) = some g1 from rfl)]
  rw [own_letV (show ((1 : Int32) + (1 : Int32)) = (2 : Int32) from rfl)]
  rw [sg8_39]
  rw [own_bs (show gR (oH136 s0 s1 s2 g0 g1 g2 c) 1 1 0 = some 2 from rfl)]
  rw [own_bs (show lA (oH136 s0 s1 s2 g0 g1 g2 c) 2 0 = some (3 : Int32) from rfl)]
  rw [if_pos (by decide : ((2 : Int32) < (3 : Int32)))]
  rw [own_bs (show gR (oH136 s0 s1 s2 g0 g1 g2 c) 1 1 0 = some 2 from rfl)]
  rw [own_bs (show rI (oH136 s0 s1 s2 g0 g1 g2 c) 2 0 (2 : Int32) = some s2 from rfl)]
  rw [own_bs (show rI (oH136 s0 s1 s2 g0 g1 g2 c) 5 0 ((0 : Int32) + (2 : Int32)) = some g2 from rfl)]
  rw [own_bs (show wV (oH136 s0 s1 s2 g0 g1 g2 c) 6 0 (2 : Int32) (.int ((((0 : Int32) + (s0 * (((((0 : Int32) + s0) + s1) + s2) - ((0 : Int32) + s0)))) + (g1 * s2)) + g2)) = some (oH138 s0 s1 s2 g0 g1 g2 c) from rfl)]
  rw [own_bs (show gR (oH138 s0 s1 s2 g0 g1 g2 c) 1 1 0 = some 2 from rfl)]
  rw [own_bs (show rI (oH138 s0 s1 s2 g0 g1 g2 c) 2 0 (1 : Int32) = some s1 from rfl)]
  rw [own_bs (show gR (oH138 s0 s1 s2 g0 g1 g2 c) 1 1 0 = some 2 from rfl)]
  rw [own_bs (show rI (oH138 s0 s1 s2 g0 g1 g2 c) 2 0 (2 : Int32) = some s2 from rfl)]
  rw [own_letU]
  try rw [show ((2 : Int32) + (1 : Int32)) = (3 : Int32) from rfl]
  try rw [show ((2 : Int32) + (1 : Int32)) = (3 : Int32) from rfl]
  rw [sg8_39]
  rw [own_bs (show gR (oH138 s0 s1 s2 g0 g1 g2 c) 1 1 0 = some 2 from rfl)]
  rw [own_bs (show lA (oH138 s0 s1 s2 g0 g1 g2 c) 2 0 = some (3 : Int32) from rfl)]
  rw [if_neg (by decide : ¬ ((3 : Int32) < (3 : Int32)))]
  rw [Option.bind_some]
  rw [own_letP1]
  rw [own_letP21]
  rw [own_letP221]
  rw [own_letP222]
  try rw [show ((1 : Int32) + (1 : Int32)) = (2 : Int32) from rfl]
  rw [b8_6]
  rw [own_bs (show gR (oH138 s0 s1 s2 g0 g1 g2 c) 1 1 0 = some 2 from rfl)]
  rw [own_bs (show lA (oH138 s0 s1 s2 g0 g1 g2 c) 2 0 = some (3 : Int32) from rfl)]
  rw [if_pos (by decide : ((2 : Int32) < (3 : Int32)))]
  rw [own_bs (show gR (oH138 s0 s1 s2 g0 g1 g2 c) 1 1 2 = some 4 from rfl)]
  rw [own_bs (show rI (oH138 s0 s1 s2 g0 g1 g2 c) 4 0 (2 : Int32) = some (((0 : Int32) + (s0 * (((((0 : Int32) + s0) + s1) + s2) - ((0 : Int32) + s0)))) + (s1 * (((((0 : Int32) + s0) + s1) + s2) - (((0 : Int32) + s0) + s1)))) from rfl)]
  rw [own_bs (show rI (oH138 s0 s1 s2 g0 g1 g2 c) 5 0 ((0 : Int32) + (2 : Int32)) = some g2 from rfl)]
  rw [own_letV (show ((2 : Int32) + (1 : Int32)) = (3 : Int32) from rfl)]
  rw [sg8_39]
  rw [own_bs (show gR (oH138 s0 s1 s2 g0 g1 g2 c) 1 1 0 = some 2 from rfl)]
  rw [own_bs (show lA (oH138 s0 s1 s2 g0 g1 g2 c) 2 0 = some (3 : Int32) from rfl)]
  rw [if_neg (by decide : ¬ ((3 : Int32) < (3 : Int32)))]
  rw [Option.bind_some]
  rw [own_letP1]
  rw [own_letP21]
  rw [own_letP221]
  rw [own_letP222]
  try rw [show ((2 : Int32) + (1 : Int32)) = (3 : Int32) from rfl]
  rw [b8_6]
  rw [own_bs (show gR (oH138 s0 s1 s2 g0 g1 g2 c) 1 1 0 = some 2 from rfl)]
  rw [own_bs (show lA (oH138 s0 s1 s2 g0 g1 g2 c) 2 0 = some (3 : Int32) from rfl)]
  rw [if_neg (by decide : ¬ ((3 : Int32) < (3 : Int32)))]
set_option maxRecDepth 20000 in
set_option maxHeartbeats 4000000 in
theorem own_c_3_0 (s0 s1 s2 s3 g0 g1 g2 g3 : Int32) (h0 : 0 ≤ s0.toInt ∧ s0.toInt ≤ 512) (h1 : 0 ≤ s1.toInt ∧ s1.toInt ≤ 512) (h2 : 0 ≤ s2.toInt ∧ s2.toInt ≤ 512) : ∃ D', b0_128 (oH93 s0 s1 s2) s0 s1 s2 s3 (3 : Int32) (0 : Int32) g0 g1 g2 g3 0 = some ((1 : Int32), D') := by
  rw [b0_128]
  rw [if_pos (by decide : ((3 : Int32) < (4 : Int32)))]
  rw [b0_140]
  rw [own_letV (show List.length (oH93 s0 s1 s2) = 1 from rfl)]
  rw [own_letV (show (oH93 s0 s1 s2) ++ ([(1, [.null, .null, .null, .int (0 : Int32)])] : Hp) = (oH94 s0 s1 s2) from rfl)]
  obtain ⟨c, h1⟩ := own_f1_3 s0 s1 s2 s3 g0 g1 g2 g3 h0 h1 h2
  rw [h1]
  rw [Option.bind_some]
  rw [own_letV (show List.length (oH112 s0 s1 s2 c) = 5 from rfl)]
  rw [own_bs (show nA (oH112 s0 s1 s2 c) 0 (8 : Int32) 8 (.int (0 : Int32)) = some (oH113 s0 s1 s2 c) from rfl)]
  rw [own_bs (show wV (oH113 s0 s1 s2 c) 5 0 (0 : Int32) (.int (100 : Int32)) = some (oH114 s0 s1 s2 c) from rfl)]
  rw [own_bs (show wV (oH114 s0 s1 s2 c) 5 0 (1 : Int32) (.int (101 : Int32)) = some (oH115 s0 s1 s2 c) from rfl)]
  rw [own_bs (show wV (oH115 s0 s1 s2 c) 5 0 (2 : Int32) (.int (102 : Int32)) = some (oH116 s0 s1 s2 c) from rfl)]
  rw [own_bs (show wV (oH116 s0 s1 s2 c) 5 0 (3 : Int32) (.int (103 : Int32)) = some (oH117 s0 s1 s2 c) from rfl)]
  rw [own_bs (show wV (oH117 s0 s1 s2 c) 5 0 (4 : Int32) (.int (104 : Int32)) = some (oH118 s0 s1 s2 c) from rfl)]
  rw [own_bs (show wV (oH118 s0 s1 s2 c) 5 0 (5 : Int32) (.int (105 : Int32)) = some (oH119 s0 s1 s2 c) from rfl)]
  rw [own_bs (show wV (oH119 s0 s1 s2 c) 5 0 (6 : Int32) (.int (106 : Int32)) = some (oH120 s0 s1 s2 c) from rfl)]
  rw [own_bs (show wV (oH120 s0 s1 s2 c) 5 0 (7 : Int32) (.int (107 : Int32)) = some (oH121 s0 s1 s2 c) from rfl)]
  rw [own_bs (show wV (oH121 s0 s1 s2 c) 5 0 (0 : Int32) (.int g0) = some (oH122 s0 s1 s2 g0 c) from rfl)]
  rw [own_bs (show wV (oH122 s0 s1 s2 g0 c) 5 0 ((0 : Int32) + (1 : Int32)) (.int g1) = some (oH123 s0 s1 s2 g0 g1 c) from rfl)]
  rw [if_neg (by decide : ¬ ((3 : Int32) < (3 : Int32)))]
  rw [own_bs (show wV (oH123 s0 s1 s2 g0 g1 c) 5 0 ((0 : Int32) + (2 : Int32)) (.int g2) = some (oH125 s0 s1 s2 g0 g1 g2 c) from rfl)]
  rw [b0_238]
  rw [if_pos (by decide : ((3 : Int32) < (4 : Int32)))]
  rw [b0_253]
  rw [own_letV (show List.length (oH125 s0 s1 s2 g0 g1 g2 c) = 6 from rfl)]
  rw [own_bs (show nA (oH125 s0 s1 s2 g0 g1 g2 c) 0 (7 : Int32) 7 (.int (0 : Int32)) = some (oH126 s0 s1 s2 g0 g1 g2 c) from rfl)]
  rw [own_bs (show wV (oH126 s0 s1 s2 g0 g1 g2 c) 6 0 (0 : Int32) (.int (-1 : Int32)) = some (oH127 s0 s1 s2 g0 g1 g2 c) from rfl)]
  rw [own_bs (show wV (oH127 s0 s1 s2 g0 g1 g2 c) 6 0 (1 : Int32) (.int (-1 : Int32)) = some (oH128 s0 s1 s2 g0 g1 g2 c) from rfl)]
  rw [own_bs (show wV (oH128 s0 s1 s2 g0 g1 g2 c) 6 0 (2 : Int32) (.int (-1 : Int32)) = some (oH129 s0 s1 s2 g0 g1 g2 c) from rfl)]
  rw [own_bs (show wV (oH129 s0 s1 s2 g0 g1 g2 c) 6 0 (3 : Int32) (.int (-1 : Int32)) = some (oH130 s0 s1 s2 g0 g1 g2 c) from rfl)]
  rw [own_bs (show wV (oH130 s0 s1 s2 g0 g1 g2 c) 6 0 (4 : Int32) (.int (-1 : Int32)) = some (oH131 s0 s1 s2 g0 g1 g2 c) from rfl)]
  rw [own_bs (show wV (oH131 s0 s1 s2 g0 g1 g2 c) 6 0 (5 : Int32) (.int (-1 : Int32)) = some (oH132 s0 s1 s2 g0 g1 g2 c) from rfl)]
  rw [own_bs (show wV (oH132 s0 s1 s2 g0 g1 g2 c) 6 0 (6 : Int32) (.int (-1 : Int32)) = some (oH133 s0 s1 s2 g0 g1 g2 c) from rfl)]
  rw [own_bs (show ck (oH133 s0 s1 s2 g0 g1 g2 c) 1 1 = some 1 from rfl)]
  rw [own_f8_3_0 s0 s1 s2 s3 g0 g1 g2 g3 c]
  rw [Option.bind_some]
  rw [own_letU]
  rw [own_letU]
  rw [own_letU]
  rw [own_letU]
  rw [own_letU]
  rw [own_letU]
  rw [if_neg (by decide : ¬ ((3 : Int32) = (4 : Int32)))]
  rw [b0_374]
  rw [own_letU]
  rw [own_letU]
  rw [own_letU]
  rw [own_letU]
  rw [own_letU]
  rw [own_letU]
  rw [own_letU]
  rw [own_letU]
  rw [if_neg (by decide : ¬ ((3 : Int32) = (2 : Int32)))]
  rw [if_pos (by decide : ((3 : Int32) = (3 : Int32)))]
  rw [own_bs (show rI (oH138 s0 s1 s2 g0 g1 g2 c) 6 0 (0 : Int32) = some (((0 : Int32) + (g0 * s1)) + g1) from rfl)]
  rw [if_pos (own_r0 s0 s1 s2 s3 g0 g1 g2 g3)]
  rw [own_bs (show rI (oH138 s0 s1 s2 g0 g1 g2 c) 6 0 (1 : Int32) = some ((((0 : Int32) + (s0 * s1)) + (g0 * s2)) + g2) from rfl)]
  rw [if_pos (own_r1 s0 s1 s2 s3 g0 g1 g2 g3)]
  rw [own_bs (show rI (oH138 s0 s1 s2 g0 g1 g2 c) 6 0 (2 : Int32) = some ((((0 : Int32) + (s0 * (((((0 : Int32) + s0) + s1) + s2) - ((0 : Int32) + s0)))) + (g1 * s2)) + g2) from rfl)]
  rw [if_pos (own_r2 s0 s1 s2 s3 g0 g1 g2 g3)]
  rw [own_bs (show rI (oH138 s0 s1 s2 g0 g1 g2 c) 6 0 (3 : Int32) = some (-1 : Int32) from rfl)]
  rw [if_pos (by decide : ((-1 : Int32) = (-1 : Int32)))]
  rw [own_bs (show rI (oH138 s0 s1 s2 g0 g1 g2 c) 6 0 (4 : Int32) = some (-1 : Int32) from rfl)]
  rw [if_pos (by decide : ((-1 : Int32) = (-1 : Int32)))]
  rw [own_bs (show rI (oH138 s0 s1 s2 g0 g1 g2 c) 6 0 (5 : Int32) = some (-1 : Int32) from rfl)]
  rw [if_pos (by decide : ((-1 : Int32) = (-1 : Int32)))]
  rw [own_bs (show rI (oH138 s0 s1 s2 g0 g1 g2 c) 6 0 (6 : Int32) = some (-1 : Int32) from rfl)]
  rw [if_pos (by decide : ((-1 : Int32) = (-1 : Int32)))]
  exact ⟨_, rfl⟩
set_option maxRecDepth 20000 in
set_option maxHeartbeats 4000000 in
theorem own_f8_3_1 (s0 s1 s2 s3 g0 g1 g2 g3 : Int32) (c : Int64) : f8 (oH150 s0 s1 s2 g0 g1 g2 c) 1 5 (1 : Int32) 6 = some (oH153 s0 s1 s2 g0 g1 g2 c) := by
  rw [f8]
  rw [b8_6]
  rw [own_bs (show gR (oH150 s0 s1 s2 g0 g1 g2 c) 1 1 0 = some 2 from rfl)]
  rw [own_bs (show lA (oH150 s0 s1 s2 g0 g1 g2 c) 2 0 = some (3 : Int32) from rfl)]
  rw [if_pos (by decide : ((0 : Int32) < (3 : Int32)))]
  rw [own_bs (show gR (oH150 s0 s1 s2 g0 g1 g2 c) 1 1 2 = some 4 from rfl)]
  rw [own_bs (show rI (oH150 s0 s1 s2 g0 g1 g2 c) 4 0 (0 : Int32) = some (0 : Int32) from rfl)]
  rw [own_bs (show rI (oH150 s0 s1 s2 g0 g1 g2 c) 5 0 ((1 : Int32) + (0 : Int32)) = some g0 from rfl)]
  rw [own_letV (show ((0 : Int32) + (1 : Int32)) = (1 : Int32) from rfl)]
  rw [sg8_39]
  rw [own_bs (show gR (oH150 s0 s1 s2 g0 g1 g2 c) 1 1 0 = some 2 from rfl)]
  rw [own_bs (show lA (oH150 s0 s1 s2 g0 g1 g2 c) 2 0 = some (3 : Int32) from rfl)]
  rw [if_pos (by decide : ((1 : Int32) < (3 : Int32)))]
  rw [own_bs (show gR (oH150 s0 s1 s2 g0 g1 g2 c) 1 1 0 = some 2 from rfl)]
  rw [own_bs (show rI (oH150 s0 s1 s2 g0 g1 g2 c) 2 0 (1 : Int32) = some s1 from rfl)]
  rw [own_bs (show rI (oH150 s0 s1 s2 g0 g1 g2 c) 5 0 ((1 : Int32) + (1 : Int32)) = some g1 from rfl)]
  rw [own_bs (show wV (oH150 s0 s1 s2 g0 g1 g2 c) 6 0 (0 : Int32) (.int (((0 : Int32) + (g0 * s1)) + g1)) = some (oH151 s0 s1 s2 g0 g1 g2 c) from rfl)]
  rw [own_bs (show gR (oH151 s0 s1 s2 g0 g1 g2 c) 1 1 0 = some 2 from rfl)]
  rw [own_bs (show rI (oH151 s0 s1 s2 g0 g1 g2 c) 2 0 (0 : Int32) = some s0 from rfl)]
  rw [own_bs (show gR (oH151 s0 s1 s2 g0 g1 g2 c) 1 1 0 = some 2 from rfl)]
  rw [own_bs (show rI (oH151 s0 s1 s2 g0 g1 g2 c) 2 0 (1 : Int32) = some s1 from rfl)]
  rw [own_letU]
  try rw [show ((0 : Int32) + (1 : Int32)) = (1 : Int32) from rfl]
  try rw [show ((1 : Int32) + (1 : Int32)) = (2 : Int32) from rfl]
  rw [sg8_39]
  rw [own_bs (show gR (oH151 s0 s1 s2 g0 g1 g2 c) 1 1 0 = some 2 from rfl)]
  rw [own_bs (show lA (oH151 s0 s1 s2 g0 g1 g2 c) 2 0 = some (3 : Int32) from rfl)]
  rw [if_pos (by decide : ((2 : Int32) < (3 : Int32)))]
  rw [own_bs (show gR (oH151 s0 s1 s2 g0 g1 g2 c) 1 1 0 = some 2 from rfl)]
  rw [own_bs (show rI (oH151 s0 s1 s2 g0 g1 g2 c) 2 0 (2 : Int32) = some s2 from rfl)]
  rw [own_bs (show rI (oH151 s0 s1 s2 g0 g1 g2 c) 5 0 ((1 : Int32) + (2 : Int32)) = some g2 from rfl)]
  rw [own_bs (show wV (oH151 s0 s1 s2 g0 g1 g2 c) 6 0 (1 : Int32) (.int ((((0 : Int32) + (s0 * s1)) + (g0 * s2)) + g2)) = some (oH152 s0 s1 s2 g0 g1 g2 c) from rfl)]
  rw [own_bs (show gR (oH152 s0 s1 s2 g0 g1 g2 c) 1 1 0 = some 2 from rfl)]
  rw [own_bs (show rI (oH152 s0 s1 s2 g0 g1 g2 c) 2 0 (0 : Int32) = some s0 from rfl)]
  rw [own_bs (show gR (oH152 s0 s1 s2 g0 g1 g2 c) 1 1 0 = some 2 from rfl)]
  rw [own_bs (show rI (oH152 s0 s1 s2 g0 g1 g2 c) 2 0 (2 : Int32) = some s2 from rfl)]
  rw [own_letU]
  try rw [show ((1 : Int32) + (1 : Int32)) = (2 : Int32) from rfl]
  try rw [show ((2 : Int32) + (1 : Int32)) = (3 : Int32) from rfl]
  rw [sg8_39]
  rw [own_bs (show gR (oH152 s0 s1 s2 g0 g1 g2 c) 1 1 0 = some 2 from rfl)]
  rw [own_bs (show lA (oH152 s0 s1 s2 g0 g1 g2 c) 2 0 = some (3 : Int32) from rfl)]
  rw [if_neg (by decide : ¬ ((3 : Int32) < (3 : Int32)))]
  rw [Option.bind_some]
  rw [own_letP1]
  rw [own_letP21]
  rw [own_letP221]
  rw [own_letP222]
  try rw [show ((0 : Int32) + (1 : Int32)) = (1 : Int32) from rfl]
  rw [b8_6]
  rw [own_bs (show gR (oH152 s0 s1 s2 g0 g1 g2 c) 1 1 0 = some 2 from rfl)]
  rw [own_bs (show lA (oH152 s0 s1 s2 g0 g1 g2 c) 2 0 = some (3 : Int32) from rfl)]
  rw [if_pos (by decide : ((1 : Int32) < (3 : Int32)))]
  rw [own_bs (show gR (oH152 s0 s1 s2 g0 g1 g2 c) 1 1 2 = some 4 from rfl)]
  rw [own_bs (show rI (oH152 s0 s1 s2 g0 g1 g2 c) 4 0 (1 : Int32) = some ((0 : Int32) + (s0 * (((((0 : Int32) + s0) + s1) + s2) - ((0 : Int32) + s0)))) from rfl)]
  rw [own_bs (show rI (oH152 s0 s1 s2 g0 g1 g2 c) 5 0 ((1 : Int32) + (1 : Int32)) = some g1 from rfl)]
  rw [own_letV (show ((1 : Int32) + (1 : Int32)) = (2 : Int32) from rfl)]
  rw [sg8_39]
  rw [own_bs (show gR (oH152 s0 s1 s2 g0 g1 g2 c) 1 1 0 = some 2 from rfl)]
  rw [own_bs (show lA (oH152 s0 s1 s2 g0 g1 g2 c) 2 0 = some (3 : Int32) from rfl)]
  rw [if_pos (by decide : ((2 : Int32) < (3 : Int32)))]
  rw [own_bs (show gR (oH152 s0 s1 s2 g0 g1 g2 c) 1 1 0 = some 2 from rfl)]
  rw [own_bs (show rI (oH152 s0 s1 s2 g0 g1 g2 c) 2 0 (2 : Int32) = some s2 from rfl)]
  rw [own_bs (show rI (oH152 s0 s1 s2 g0 g1 g2 c) 5 0 ((1 : Int32) + (2 : Int32)) = some g2 from rfl)]
  rw [own_bs (show wV (oH152 s0 s1 s2 g0 g1 g2 c) 6 0 (2 : Int32) (.int ((((0 : Int32) + (s0 * (((((0 : Int32) + s0) + s1) + s2) - ((0 : Int32) + s0)))) + (g1 * s2)) + g2)) = some (oH153 s0 s1 s2 g0 g1 g2 c) from rfl)]
  rw [own_bs (show gR (oH153 s0 s1 s2 g0 g1 g2 c) 1 1 0 = some 2 from rfl)]
  rw [own_bs (show rI (oH153 s0 s1 s2 g0 g1 g2 c) 2 0 (1 : Int32) = some s1 from rfl)]
  rw [own_bs (show gR (oH153 s0 s1 s2 g0 g1 g2 c) 1 1 0 = some 2 from rfl)]
  rw [own_bs (show rI (oH153 s0 s1 s2 g0 g1 g2 c) 2 0 (2 : Int32) = some s2 from rfl)]
  rw [own_letU]
  try rw [show ((2 : Int32) + (1 : Int32)) = (3 : Int32) from rfl]
  try rw [show ((2 : Int32) + (1 : Int32)) = (3 : Int32) from rfl]
  rw [sg8_39]
  rw [own_bs (show gR (oH153 s0 s1 s2 g0 g1 g2 c) 1 1 0 = some 2 from rfl)]
  rw [own_bs (show lA (oH153 s0 s1 s2 g0 g1 g2 c) 2 0 = some (3 : Int32) from rfl)]
  rw [if_neg (by decide : ¬ ((3 : Int32) < (3 : Int32)))]
  rw [Option.bind_some]
  rw [own_letP1]
  rw [own_letP21]
  rw [own_letP221]
  rw [own_letP222]
  try rw [show ((1 : Int32) + (1 : Int32)) = (2 : Int32) from rfl]
  rw [b8_6]
  rw [own_bs (show gR (oH153 s0 s1 s2 g0 g1 g2 c) 1 1 0 = some 2 from rfl)]
  rw [own_bs (show lA (oH153 s0 s1 s2 g0 g1 g2 c) 2 0 = some (3 : Int32) from rfl)]
  rw [if_pos (by decide : ((2 : Int32) < (3 : Int32)))]
  rw [own_bs (show gR (oH153 s0 s1 s2 g0 g1 g2 c) 1 1 2 = some 4 from rfl)]
  rw [own_bs (show rI (oH153 s0 s1 s2 g0 g1 g2 c) 4 0 (2 : Int32) = some (((0 : Int32) + (s0 * (((((0 : Int32) + s0) + s1) + s2) - ((0 : Int32) + s0)))) + (s1 * (((((0 : Int32) + s0) + s1) + s2) - (((0 : Int32) + s0) + s1)))) from rfl)]
  rw [own_bs (show rI (oH153 s0 s1 s2 g0 g1 g2 c) 5 0 ((1 : Int32) + (2 : Int32)) = some g2 from rfl)]
  rw [own_letV (show ((2 : Int32) + (1 : Int32)) = (3 : Int32) from rfl)]
  rw [sg8_39]
  rw [own_bs (show gR (oH153 s0 s1 s2 g0 g1 g2 c) 1 1 0 = some 2 from rfl)]
  rw [own_bs (show lA (oH153 s0 s1 s2 g0 g1 g2 c) 2 0 = some (3 : Int32) from rfl)]
  rw [if_neg (by decide : ¬ ((3 : Int32) < (3 : Int32)))]
  rw [Option.bind_some]
  rw [own_letP1]
  rw [own_letP21]
  rw [own_letP221]
  rw [own_letP222]
  try rw [show ((2 : Int32) + (1 : Int32)) = (3 : Int32) from rfl]
  rw [b8_6]
  rw [own_bs (show gR (oH153 s0 s1 s2 g0 g1 g2 c) 1 1 0 = some 2 from rfl)]
  rw [own_bs (show lA (oH153 s0 s1 s2 g0 g1 g2 c) 2 0 = some (3 : Int32) from rfl)]
  rw [if_neg (by decide : ¬ ((3 : Int32) < (3 : Int32)))]
set_option maxRecDepth 20000 in
set_option maxHeartbeats 4000000 in
theorem own_c_3_1 (s0 s1 s2 s3 g0 g1 g2 g3 : Int32) (h0 : 0 ≤ s0.toInt ∧ s0.toInt ≤ 512) (h1 : 0 ≤ s1.toInt ∧ s1.toInt ≤ 512) (h2 : 0 ≤ s2.toInt ∧ s2.toInt ≤ 512) : ∃ D', b0_128 (oH93 s0 s1 s2) s0 s1 s2 s3 (3 : Int32) (1 : Int32) g0 g1 g2 g3 0 = some ((1 : Int32), D') := by
  rw [b0_128]
  rw [if_pos (by decide : ((3 : Int32) < (4 : Int32)))]
  rw [b0_140]
  rw [own_letV (show List.length (oH93 s0 s1 s2) = 1 from rfl)]
  rw [own_letV (show (oH93 s0 s1 s2) ++ ([(1, [.null, .null, .null, .int (0 : Int32)])] : Hp) = (oH94 s0 s1 s2) from rfl)]
  obtain ⟨c, h1⟩ := own_f1_3 s0 s1 s2 s3 g0 g1 g2 g3 h0 h1 h2
  rw [h1]
  rw [Option.bind_some]
  rw [own_letV (show List.length (oH112 s0 s1 s2 c) = 5 from rfl)]
  rw [own_bs (show nA (oH112 s0 s1 s2 c) 0 (8 : Int32) 8 (.int (0 : Int32)) = some (oH113 s0 s1 s2 c) from rfl)]
  rw [own_bs (show wV (oH113 s0 s1 s2 c) 5 0 (0 : Int32) (.int (100 : Int32)) = some (oH114 s0 s1 s2 c) from rfl)]
  rw [own_bs (show wV (oH114 s0 s1 s2 c) 5 0 (1 : Int32) (.int (101 : Int32)) = some (oH115 s0 s1 s2 c) from rfl)]
  rw [own_bs (show wV (oH115 s0 s1 s2 c) 5 0 (2 : Int32) (.int (102 : Int32)) = some (oH116 s0 s1 s2 c) from rfl)]
  rw [own_bs (show wV (oH116 s0 s1 s2 c) 5 0 (3 : Int32) (.int (103 : Int32)) = some (oH117 s0 s1 s2 c) from rfl)]
  rw [own_bs (show wV (oH117 s0 s1 s2 c) 5 0 (4 : Int32) (.int (104 : Int32)) = some (oH118 s0 s1 s2 c) from rfl)]
  rw [own_bs (show wV (oH118 s0 s1 s2 c) 5 0 (5 : Int32) (.int (105 : Int32)) = some (oH119 s0 s1 s2 c) from rfl)]
  rw [own_bs (show wV (oH119 s0 s1 s2 c) 5 0 (6 : Int32) (.int (106 : Int32)) = some (oH120 s0 s1 s2 c) from rfl)]
  rw [own_bs (show wV (oH120 s0 s1 s2 c) 5 0 (7 : Int32) (.int (107 : Int32)) = some (oH121 s0 s1 s2 c) from rfl)]
  rw [own_bs (show wV (oH121 s0 s1 s2 c) 5 0 (1 : Int32) (.int g0) = some (oH139 s0 s1 s2 g0 c) from rfl)]
  rw [own_bs (show wV (oH139 s0 s1 s2 g0 c) 5 0 ((1 : Int32) + (1 : Int32)) (.int g1) = some (oH140 s0 s1 s2 g0 g1 c) from rfl)]
  rw [if_neg (by decide : ¬ ((3 : Int32) < (3 : Int32)))]
  rw [own_bs (show wV (oH140 s0 s1 s2 g0 g1 c) 5 0 ((1 : Int32) + (2 : Int32)) (.int g2) = some (oH142 s0 s1 s2 g0 g1 g2 c) from rfl)]
  rw [b0_238]
  rw [if_pos (by decide : ((3 : Int32) < (4 : Int32)))]
  rw [b0_253]
  rw [own_letV (show List.length (oH142 s0 s1 s2 g0 g1 g2 c) = 6 from rfl)]
  rw [own_bs (show nA (oH142 s0 s1 s2 g0 g1 g2 c) 0 (7 : Int32) 7 (.int (0 : Int32)) = some (oH143 s0 s1 s2 g0 g1 g2 c) from rfl)]
  rw [own_bs (show wV (oH143 s0 s1 s2 g0 g1 g2 c) 6 0 (0 : Int32) (.int (-1 : Int32)) = some (oH144 s0 s1 s2 g0 g1 g2 c) from rfl)]
  rw [own_bs (show wV (oH144 s0 s1 s2 g0 g1 g2 c) 6 0 (1 : Int32) (.int (-1 : Int32)) = some (oH145 s0 s1 s2 g0 g1 g2 c) from rfl)]
  rw [own_bs (show wV (oH145 s0 s1 s2 g0 g1 g2 c) 6 0 (2 : Int32) (.int (-1 : Int32)) = some (oH146 s0 s1 s2 g0 g1 g2 c) from rfl)]
  rw [own_bs (show wV (oH146 s0 s1 s2 g0 g1 g2 c) 6 0 (3 : Int32) (.int (-1 : Int32)) = some (oH147 s0 s1 s2 g0 g1 g2 c) from rfl)]
  rw [own_bs (show wV (oH147 s0 s1 s2 g0 g1 g2 c) 6 0 (4 : Int32) (.int (-1 : Int32)) = some (oH148 s0 s1 s2 g0 g1 g2 c) from rfl)]
  rw [own_bs (show wV (oH148 s0 s1 s2 g0 g1 g2 c) 6 0 (5 : Int32) (.int (-1 : Int32)) = some (oH149 s0 s1 s2 g0 g1 g2 c) from rfl)]
  rw [own_bs (show wV (oH149 s0 s1 s2 g0 g1 g2 c) 6 0 (6 : Int32) (.int (-1 : Int32)) = some (oH150 s0 s1 s2 g0 g1 g2 c) from rfl)]
  rw [own_bs (show ck (oH150 s0 s1 s2 g0 g1 g2 c) 1 1 = some 1 from rfl)]
  rw [own_f8_3_1 s0 s1 s2 s3 g0 g1 g2 g3 c]
  rw [Option.bind_some]
  rw [own_letU]
  rw [own_letU]
  rw [own_letU]
  rw [own_letU]
  rw [own_letU]
  rw [own_letU]
  rw [if_neg (by decide : ¬ ((3 : Int32) = (4 : Int32)))]
  rw [b0_374]
  rw [own_letU]
  rw [own_letU]
  rw [own_letU]
  rw [own_letU]
  rw [own_letU]
  rw [own_letU]
  rw [own_letU]
  rw [own_letU]
  rw [if_neg (by decide : ¬ ((3 : Int32) = (2 : Int32)))]
  rw [if_pos (by decide : ((3 : Int32) = (3 : Int32)))]
  rw [own_bs (show rI (oH153 s0 s1 s2 g0 g1 g2 c) 6 0 (0 : Int32) = some (((0 : Int32) + (g0 * s1)) + g1) from rfl)]
  rw [if_pos (own_r0 s0 s1 s2 s3 g0 g1 g2 g3)]
  rw [own_bs (show rI (oH153 s0 s1 s2 g0 g1 g2 c) 6 0 (1 : Int32) = some ((((0 : Int32) + (s0 * s1)) + (g0 * s2)) + g2) from rfl)]
  rw [if_pos (own_r1 s0 s1 s2 s3 g0 g1 g2 g3)]
  rw [own_bs (show rI (oH153 s0 s1 s2 g0 g1 g2 c) 6 0 (2 : Int32) = some ((((0 : Int32) + (s0 * (((((0 : Int32) + s0) + s1) + s2) - ((0 : Int32) + s0)))) + (g1 * s2)) + g2) from rfl)]
  rw [if_pos (own_r2 s0 s1 s2 s3 g0 g1 g2 g3)]
  rw [own_bs (show rI (oH153 s0 s1 s2 g0 g1 g2 c) 6 0 (3 : Int32) = some (-1 : Int32) from rfl)]
  rw [if_pos (by decide : ((-1 : Int32) = (-1 : Int32)))]
  rw [own_bs (show rI (oH153 s0 s1 s2 g0 g1 g2 c) 6 0 (4 : Int32) = some (-1 : Int32) from rfl)]
  rw [if_pos (by decide : ((-1 : Int32) = (-1 : Int32)))]
  rw [own_bs (show rI (oH153 s0 s1 s2 g0 g1 g2 c) 6 0 (5 : Int32) = some (-1 : Int32) from rfl)]
  rw [if_pos (by decide : ((-1 : Int32) = (-1 : Int32)))]
  rw [own_bs (show rI (oH153 s0 s1 s2 g0 g1 g2 c) 6 0 (6 : Int32) = some (-1 : Int32) from rfl)]
  rw [if_pos (by decide : ((-1 : Int32) = (-1 : Int32)))]
  exact ⟨_, rfl⟩
set_option maxRecDepth 20000 in
set_option maxHeartbeats 4000000 in
theorem own_f8_3_2 (s0 s1 s2 s3 g0 g1 g2 g3 : Int32) (c : Int64) : f8 (oH165 s0 s1 s2 g0 g1 g2 c) 1 5 (2 : Int32) 6 = some (oH168 s0 s1 s2 g0 g1 g2 c) := by
  rw [f8]
  rw [b8_6]
  rw [own_bs (show gR (oH165 s0 s1 s2 g0 g1 g2 c) 1 1 0 = some 2 from rfl)]
  rw [own_bs (show lA (oH165 s0 s1 s2 g0 g1 g2 c) 2 0 = some (3 : Int32) from rfl)]
  rw [if_pos (by decide : ((0 : Int32) < (3 : Int32)))]
  rw [own_bs (show gR (oH165 s0 s1 s2 g0 g1 g2 c) 1 1 2 = some 4 from rfl)]
  rw [own_bs (show rI (oH165 s0 s1 s2 g0 g1 g2 c) 4 0 (0 : Int32) = some (0 : Int32) from rfl)]
  rw [own_bs (show rI (oH165 s0 s1 s2 g0 g1 g2 c) 5 0 ((2 : Int32) + (0 : Int32)) = some g0 from rfl)]
  rw [own_letV (show ((0 : Int32) + (1 : Int32)) = (1 : Int32) from rfl)]
  rw [sg8_39]
  rw [own_bs (show gR (oH165 s0 s1 s2 g0 g1 g2 c) 1 1 0 = some 2 from rfl)]
  rw [own_bs (show lA (oH165 s0 s1 s2 g0 g1 g2 c) 2 0 = some (3 : Int32) from rfl)]
  rw [if_pos (by decide : ((1 : Int32) < (3 : Int32)))]
  rw [own_bs (show gR (oH165 s0 s1 s2 g0 g1 g2 c) 1 1 0 = some 2 from rfl)]
  rw [own_bs (show rI (oH165 s0 s1 s2 g0 g1 g2 c) 2 0 (1 : Int32) = some s1 from rfl)]
  rw [own_bs (show rI (oH165 s0 s1 s2 g0 g1 g2 c) 5 0 ((2 : Int32) + (1 : Int32)) = some g1 from rfl)]
  rw [own_bs (show wV (oH165 s0 s1 s2 g0 g1 g2 c) 6 0 (0 : Int32) (.int (((0 : Int32) + (g0 * s1)) + g1)) = some (oH166 s0 s1 s2 g0 g1 g2 c) from rfl)]
  rw [own_bs (show gR (oH166 s0 s1 s2 g0 g1 g2 c) 1 1 0 = some 2 from rfl)]
  rw [own_bs (show rI (oH166 s0 s1 s2 g0 g1 g2 c) 2 0 (0 : Int32) = some s0 from rfl)]
  rw [own_bs (show gR (oH166 s0 s1 s2 g0 g1 g2 c) 1 1 0 = some 2 from rfl)]
  rw [own_bs (show rI (oH166 s0 s1 s2 g0 g1 g2 c) 2 0 (1 : Int32) = some s1 from rfl)]
  rw [own_letU]
  try rw [show ((0 : Int32) + (1 : Int32)) = (1 : Int32) from rfl]
  try rw [show ((1 : Int32) + (1 : Int32)) = (2 : Int32) from rfl]
  rw [sg8_39]
  rw [own_bs (show gR (oH166 s0 s1 s2 g0 g1 g2 c) 1 1 0 = some 2 from rfl)]
  rw [own_bs (show lA (oH166 s0 s1 s2 g0 g1 g2 c) 2 0 = some (3 : Int32) from rfl)]
  rw [if_pos (by decide : ((2 : Int32) < (3 : Int32)))]
  rw [own_bs (show gR (oH166 s0 s1 s2 g0 g1 g2 c) 1 1 0 = some 2 from rfl)]
  rw [own_bs (show rI (oH166 s0 s1 s2 g0 g1 g2 c) 2 0 (2 : Int32) = some s2 from rfl)]
  rw [own_bs (show rI (oH166 s0 s1 s2 g0 g1 g2 c) 5 0 ((2 : Int32) + (2 : Int32)) = some g2 from rfl)]
  rw [own_bs (show wV (oH166 s0 s1 s2 g0 g1 g2 c) 6 0 (1 : Int32) (.int ((((0 : Int32) + (s0 * s1)) + (g0 * s2)) + g2)) = some (oH167 s0 s1 s2 g0 g1 g2 c) from rfl)]
  rw [own_bs (show gR (oH167 s0 s1 s2 g0 g1 g2 c) 1 1 0 = some 2 from rfl)]
  rw [own_bs (show rI (oH167 s0 s1 s2 g0 g1 g2 c) 2 0 (0 : Int32) = some s0 from rfl)]
  rw [own_bs (show gR (oH167 s0 s1 s2 g0 g1 g2 c) 1 1 0 = some 2 from rfl)]
  rw [own_bs (show rI (oH167 s0 s1 s2 g0 g1 g2 c) 2 0 (2 : Int32) = some s2 from rfl)]
  rw [own_letU]
  try rw [show ((1 : Int32) + (1 : Int32)) = (2 : Int32) from rfl]
  try rw [show ((2 : Int32) + (1 : Int32)) = (3 : Int32) from rfl]
  rw [sg8_39]
  rw [own_bs (show gR (oH167 s0 s1 s2 g0 g1 g2 c) 1 1 0 = some 2 from rfl)]
  rw [own_bs (show lA (oH167 s0 s1 s2 g0 g1 g2 c) 2 0 = some (3 : Int32) from rfl)]
  rw [if_neg (by decide : ¬ ((3 : Int32) < (3 : Int32)))]
  rw [Option.bind_some]
  rw [own_letP1]
  rw [own_letP21]
  rw [own_letP221]
  rw [own_letP222]
  try rw [show ((0 : Int32) + (1 : Int32)) = (1 : Int32) from rfl]
  rw [b8_6]
  rw [own_bs (show gR (oH167 s0 s1 s2 g0 g1 g2 c) 1 1 0 = some 2 from rfl)]
  rw [own_bs (show lA (oH167 s0 s1 s2 g0 g1 g2 c) 2 0 = some (3 : Int32) from rfl)]
  rw [if_pos (by decide : ((1 : Int32) < (3 : Int32)))]
  rw [own_bs (show gR (oH167 s0 s1 s2 g0 g1 g2 c) 1 1 2 = some 4 from rfl)]
  rw [own_bs (show rI (oH167 s0 s1 s2 g0 g1 g2 c) 4 0 (1 : Int32) = some ((0 : Int32) + (s0 * (((((0 : Int32) + s0) + s1) + s2) - ((0 : Int32) + s0)))) from rfl)]
  rw [own_bs (show rI (oH167 s0 s1 s2 g0 g1 g2 c) 5 0 ((2 : Int32) + (1 : Int32)) = some g1 from rfl)]
  rw [own_letV (show ((1 : Int32) + (1 : Int32)) = (2 : Int32) from rfl)]
  rw [sg8_39]
  rw [own_bs (show gR (oH167 s0 s1 s2 g0 g1 g2 c) 1 1 0 = some 2 from rfl)]
  rw [own_bs (show lA (oH167 s0 s1 s2 g0 g1 g2 c) 2 0 = some (3 : Int32) from rfl)]
  rw [if_pos (by decide : ((2 : Int32) < (3 : Int32)))]
  rw [own_bs (show gR (oH167 s0 s1 s2 g0 g1 g2 c) 1 1 0 = some 2 from rfl)]
  rw [own_bs (show rI (oH167 s0 s1 s2 g0 g1 g2 c) 2 0 (2 : Int32) = some s2 from rfl)]
  rw [own_bs (show rI (oH167 s0 s1 s2 g0 g1 g2 c) 5 0 ((2 : Int32) + (2 : Int32)) = some g2 from rfl)]
  rw [own_bs (show wV (oH167 s0 s1 s2 g0 g1 g2 c) 6 0 (2 : Int32) (.int ((((0 : Int32) + (s0 * (((((0 : Int32) + s0) + s1) + s2) - ((0 : Int32) + s0)))) + (g1 * s2)) + g2)) = some (oH168 s0 s1 s2 g0 g1 g2 c) from rfl)]
  rw [own_bs (show gR (oH168 s0 s1 s2 g0 g1 g2 c) 1 1 0 = some 2 from rfl)]
  rw [own_bs (show rI (oH168 s0 s1 s2 g0 g1 g2 c) 2 0 (1 : Int32) = some s1 from rfl)]
  rw [own_bs (show gR (oH168 s0 s1 s2 g0 g1 g2 c) 1 1 0 = some 2 from rfl)]
  rw [own_bs (show rI (oH168 s0 s1 s2 g0 g1 g2 c) 2 0 (2 : Int32) = some s2 from rfl)]
  rw [own_letU]
  try rw [show ((2 : Int32) + (1 : Int32)) = (3 : Int32) from rfl]
  try rw [show ((2 : Int32) + (1 : Int32)) = (3 : Int32) from rfl]
  rw [sg8_39]
  rw [own_bs (show gR (oH168 s0 s1 s2 g0 g1 g2 c) 1 1 0 = some 2 from rfl)]
  rw [own_bs (show lA (oH168 s0 s1 s2 g0 g1 g2 c) 2 0 = some (3 : Int32) from rfl)]
  rw [if_neg (by decide : ¬ ((3 : Int32) < (3 : Int32)))]
  rw [Option.bind_some]
  rw [own_letP1]
  rw [own_letP21]
  rw [own_letP221]
  rw [own_letP222]
  try rw [show ((1 : Int32) + (1 : Int32)) = (2 : Int32) from rfl]
  rw [b8_6]
  rw [own_bs (show gR (oH168 s0 s1 s2 g0 g1 g2 c) 1 1 0 = some 2 from rfl)]
  rw [own_bs (show lA (oH168 s0 s1 s2 g0 g1 g2 c) 2 0 = some (3 : Int32) from rfl)]
  rw [if_pos (by decide : ((2 : Int32) < (3 : Int32)))]
  rw [own_bs (show gR (oH168 s0 s1 s2 g0 g1 g2 c) 1 1 2 = some 4 from rfl)]
  rw [own_bs (show rI (oH168 s0 s1 s2 g0 g1 g2 c) 4 0 (2 : Int32) = some (((0 : Int32) + (s0 * (((((0 : Int32) + s0) + s1) + s2) - ((0 : Int32) + s0)))) + (s1 * (((((0 : Int32) + s0) + s1) + s2) - (((0 : Int32) + s0) + s1)))) from rfl)]
  rw [own_bs (show rI (oH168 s0 s1 s2 g0 g1 g2 c) 5 0 ((2 : Int32) + (2 : Int32)) = some g2 from rfl)]
  rw [own_letV (show ((2 : Int32) + (1 : Int32)) = (3 : Int32) from rfl)]
  rw [sg8_39]
  rw [own_bs (show gR (oH168 s0 s1 s2 g0 g1 g2 c) 1 1 0 = some 2 from rfl)]
  rw [own_bs (show lA (oH168 s0 s1 s2 g0 g1 g2 c) 2 0 = some (3 : Int32) from rfl)]
  rw [if_neg (by decide : ¬ ((3 : Int32) < (3 : Int32)))]
  rw [Option.bind_some]
  rw [own_letP1]
  rw [own_letP21]
  rw [own_letP221]
  rw [own_letP222]
  try rw [show ((2 : Int32) + (1 : Int32)) = (3 : Int32) from rfl]
  rw [b8_6]
  rw [own_bs (show gR (oH168 s0 s1 s2 g0 g1 g2 c) 1 1 0 = some 2 from rfl)]
  rw [own_bs (show lA (oH168 s0 s1 s2 g0 g1 g2 c) 2 0 = some (3 : Int32) from rfl)]
  rw [if_neg (by decide : ¬ ((3 : Int32) < (3 : Int32)))]
set_option maxRecDepth 20000 in
set_option maxHeartbeats 4000000 in
theorem own_c_3_2 (s0 s1 s2 s3 g0 g1 g2 g3 : Int32) (h0 : 0 ≤ s0.toInt ∧ s0.toInt ≤ 512) (h1 : 0 ≤ s1.toInt ∧ s1.toInt ≤ 512) (h2 : 0 ≤ s2.toInt ∧ s2.toInt ≤ 512) : ∃ D', b0_128 (oH93 s0 s1 s2) s0 s1 s2 s3 (3 : Int32) (2 : Int32) g0 g1 g2 g3 0 = some ((1 : Int32), D') := by
  rw [b0_128]
  rw [if_pos (by decide : ((3 : Int32) < (4 : Int32)))]
  rw [b0_140]
  rw [own_letV (show List.length (oH93 s0 s1 s2) = 1 from rfl)]
  rw [own_letV (show (oH93 s0 s1 s2) ++ ([(1, [.null, .null, .null, .int (0 : Int32)])] : Hp) = (oH94 s0 s1 s2) from rfl)]
  obtain ⟨c, h1⟩ := own_f1_3 s0 s1 s2 s3 g0 g1 g2 g3 h0 h1 h2
  rw [h1]
  rw [Option.bind_some]
  rw [own_letV (show List.length (oH112 s0 s1 s2 c) = 5 from rfl)]
  rw [own_bs (show nA (oH112 s0 s1 s2 c) 0 (8 : Int32) 8 (.int (0 : Int32)) = some (oH113 s0 s1 s2 c) from rfl)]
  rw [own_bs (show wV (oH113 s0 s1 s2 c) 5 0 (0 : Int32) (.int (100 : Int32)) = some (oH114 s0 s1 s2 c) from rfl)]
  rw [own_bs (show wV (oH114 s0 s1 s2 c) 5 0 (1 : Int32) (.int (101 : Int32)) = some (oH115 s0 s1 s2 c) from rfl)]
  rw [own_bs (show wV (oH115 s0 s1 s2 c) 5 0 (2 : Int32) (.int (102 : Int32)) = some (oH116 s0 s1 s2 c) from rfl)]
  rw [own_bs (show wV (oH116 s0 s1 s2 c) 5 0 (3 : Int32) (.int (103 : Int32)) = some (oH117 s0 s1 s2 c) from rfl)]
  rw [own_bs (show wV (oH117 s0 s1 s2 c) 5 0 (4 : Int32) (.int (104 : Int32)) = some (oH118 s0 s1 s2 c) from rfl)]
  rw [own_bs (show wV (oH118 s0 s1 s2 c) 5 0 (5 : Int32) (.int (105 : Int32)) = some (oH119 s0 s1 s2 c) from rfl)]
  rw [own_bs (show wV (oH119 s0 s1 s2 c) 5 0 (6 : Int32) (.int (106 : Int32)) = some (oH120 s0 s1 s2 c) from rfl)]
  rw [own_bs (show wV (oH120 s0 s1 s2 c) 5 0 (7 : Int32) (.int (107 : Int32)) = some (oH121 s0 s1 s2 c) from rfl)]
  rw [own_bs (show wV (oH121 s0 s1 s2 c) 5 0 (2 : Int32) (.int g0) = some (oH154 s0 s1 s2 g0 c) from rfl)]
  rw [own_bs (show wV (oH154 s0 s1 s2 g0 c) 5 0 ((2 : Int32) + (1 : Int32)) (.int g1) = some (oH155 s0 s1 s2 g0 g1 c) from rfl)]
  rw [if_neg (by decide : ¬ ((3 : Int32) < (3 : Int32)))]
  rw [own_bs (show wV (oH155 s0 s1 s2 g0 g1 c) 5 0 ((2 : Int32) + (2 : Int32)) (.int g2) = some (oH157 s0 s1 s2 g0 g1 g2 c) from rfl)]
  rw [b0_238]
  rw [if_pos (by decide : ((3 : Int32) < (4 : Int32)))]
  rw [b0_253]
  rw [own_letV (show List.length (oH157 s0 s1 s2 g0 g1 g2 c) = 6 from rfl)]
  rw [own_bs (show nA (oH157 s0 s1 s2 g0 g1 g2 c) 0 (7 : Int32) 7 (.int (0 : Int32)) = some (oH158 s0 s1 s2 g0 g1 g2 c) from rfl)]
  rw [own_bs (show wV (oH158 s0 s1 s2 g0 g1 g2 c) 6 0 (0 : Int32) (.int (-1 : Int32)) = some (oH159 s0 s1 s2 g0 g1 g2 c) from rfl)]
  rw [own_bs (show wV (oH159 s0 s1 s2 g0 g1 g2 c) 6 0 (1 : Int32) (.int (-1 : Int32)) = some (oH160 s0 s1 s2 g0 g1 g2 c) from rfl)]
  rw [own_bs (show wV (oH160 s0 s1 s2 g0 g1 g2 c) 6 0 (2 : Int32) (.int (-1 : Int32)) = some (oH161 s0 s1 s2 g0 g1 g2 c) from rfl)]
  rw [own_bs (show wV (oH161 s0 s1 s2 g0 g1 g2 c) 6 0 (3 : Int32) (.int (-1 : Int32)) = some (oH162 s0 s1 s2 g0 g1 g2 c) from rfl)]
  rw [own_bs (show wV (oH162 s0 s1 s2 g0 g1 g2 c) 6 0 (4 : Int32) (.int (-1 : Int32)) = some (oH163 s0 s1 s2 g0 g1 g2 c) from rfl)]
  rw [own_bs (show wV (oH163 s0 s1 s2 g0 g1 g2 c) 6 0 (5 : Int32) (.int (-1 : Int32)) = some (oH164 s0 s1 s2 g0 g1 g2 c) from rfl)]
  rw [own_bs (show wV (oH164 s0 s1 s2 g0 g1 g2 c) 6 0 (6 : Int32) (.int (-1 : Int32)) = some (oH165 s0 s1 s2 g0 g1 g2 c) from rfl)]
  rw [own_bs (show ck (oH165 s0 s1 s2 g0 g1 g2 c) 1 1 = some 1 from rfl)]
  rw [own_f8_3_2 s0 s1 s2 s3 g0 g1 g2 g3 c]
  rw [Option.bind_some]
  rw [own_letU]
  rw [own_letU]
  rw [own_letU]
  rw [own_letU]
  rw [own_letU]
  rw [own_letU]
  rw [if_neg (by decide : ¬ ((3 : Int32) = (4 : Int32)))]
  rw [b0_374]
  rw [own_letU]
  rw [own_letU]
  rw [own_letU]
  rw [own_letU]
  rw [own_letU]
  rw [own_letU]
  rw [own_letU]
  rw [own_letU]
  rw [if_neg (by decide : ¬ ((3 : Int32) = (2 : Int32)))]
  rw [if_pos (by decide : ((3 : Int32) = (3 : Int32)))]
  rw [own_bs (show rI (oH168 s0 s1 s2 g0 g1 g2 c) 6 0 (0 : Int32) = some (((0 : Int32) + (g0 * s1)) + g1) from rfl)]
  rw [if_pos (own_r0 s0 s1 s2 s3 g0 g1 g2 g3)]
  rw [own_bs (show rI (oH168 s0 s1 s2 g0 g1 g2 c) 6 0 (1 : Int32) = some ((((0 : Int32) + (s0 * s1)) + (g0 * s2)) + g2) from rfl)]
  rw [if_pos (own_r1 s0 s1 s2 s3 g0 g1 g2 g3)]
  rw [own_bs (show rI (oH168 s0 s1 s2 g0 g1 g2 c) 6 0 (2 : Int32) = some ((((0 : Int32) + (s0 * (((((0 : Int32) + s0) + s1) + s2) - ((0 : Int32) + s0)))) + (g1 * s2)) + g2) from rfl)]
  rw [if_pos (own_r2 s0 s1 s2 s3 g0 g1 g2 g3)]
  rw [own_bs (show rI (oH168 s0 s1 s2 g0 g1 g2 c) 6 0 (3 : Int32) = some (-1 : Int32) from rfl)]
  rw [if_pos (by decide : ((-1 : Int32) = (-1 : Int32)))]
  rw [own_bs (show rI (oH168 s0 s1 s2 g0 g1 g2 c) 6 0 (4 : Int32) = some (-1 : Int32) from rfl)]
  rw [if_pos (by decide : ((-1 : Int32) = (-1 : Int32)))]
  rw [own_bs (show rI (oH168 s0 s1 s2 g0 g1 g2 c) 6 0 (5 : Int32) = some (-1 : Int32) from rfl)]
  rw [if_pos (by decide : ((-1 : Int32) = (-1 : Int32)))]
  rw [own_bs (show rI (oH168 s0 s1 s2 g0 g1 g2 c) 6 0 (6 : Int32) = some (-1 : Int32) from rfl)]
  rw [if_pos (by decide : ((-1 : Int32) = (-1 : Int32)))]
  exact ⟨_, rfl⟩
set_option maxRecDepth 20000 in
set_option maxHeartbeats 4000000 in
theorem own_f8_3_3 (s0 s1 s2 s3 g0 g1 g2 g3 : Int32) (c : Int64) : f8 (oH180 s0 s1 s2 g0 g1 g2 c) 1 5 (3 : Int32) 6 = some (oH183 s0 s1 s2 g0 g1 g2 c) := by
  rw [f8]
  rw [b8_6]
  rw [own_bs (show gR (oH180 s0 s1 s2 g0 g1 g2 c) 1 1 0 = some 2 from rfl)]
  rw [own_bs (show lA (oH180 s0 s1 s2 g0 g1 g2 c) 2 0 = some (3 : Int32) from rfl)]
  rw [if_pos (by decide : ((0 : Int32) < (3 : Int32)))]
  rw [own_bs (show gR (oH180 s0 s1 s2 g0 g1 g2 c) 1 1 2 = some 4 from rfl)]
  rw [own_bs (show rI (oH180 s0 s1 s2 g0 g1 g2 c) 4 0 (0 : Int32) = some (0 : Int32) from rfl)]
  rw [own_bs (show rI (oH180 s0 s1 s2 g0 g1 g2 c) 5 0 ((3 : Int32) + (0 : Int32)) = some g0 from rfl)]
  rw [own_letV (show ((0 : Int32) + (1 : Int32)) = (1 : Int32) from rfl)]
  rw [sg8_39]
  rw [own_bs (show gR (oH180 s0 s1 s2 g0 g1 g2 c) 1 1 0 = some 2 from rfl)]
  rw [own_bs (show lA (oH180 s0 s1 s2 g0 g1 g2 c) 2 0 = some (3 : Int32) from rfl)]
  rw [if_pos (by decide : ((1 : Int32) < (3 : Int32)))]
  rw [own_bs (show gR (oH180 s0 s1 s2 g0 g1 g2 c) 1 1 0 = some 2 from rfl)]
  rw [own_bs (show rI (oH180 s0 s1 s2 g0 g1 g2 c) 2 0 (1 : Int32) = some s1 from rfl)]
  rw [own_bs (show rI (oH180 s0 s1 s2 g0 g1 g2 c) 5 0 ((3 : Int32) + (1 : Int32)) = some g1 from rfl)]
  rw [own_bs (show wV (oH180 s0 s1 s2 g0 g1 g2 c) 6 0 (0 : Int32) (.int (((0 : Int32) + (g0 * s1)) + g1)) = some (oH181 s0 s1 s2 g0 g1 g2 c) from rfl)]
  rw [own_bs (show gR (oH181 s0 s1 s2 g0 g1 g2 c) 1 1 0 = some 2 from rfl)]
  rw [own_bs (show rI (oH181 s0 s1 s2 g0 g1 g2 c) 2 0 (0 : Int32) = some s0 from rfl)]
  rw [own_bs (show gR (oH181 s0 s1 s2 g0 g1 g2 c) 1 1 0 = some 2 from rfl)]
  rw [own_bs (show rI (oH181 s0 s1 s2 g0 g1 g2 c) 2 0 (1 : Int32) = some s1 from rfl)]
  rw [own_letU]
  try rw [show ((0 : Int32) + (1 : Int32)) = (1 : Int32) from rfl]
  try rw [show ((1 : Int32) + (1 : Int32)) = (2 : Int32) from rfl]
  rw [sg8_39]
  rw [own_bs (show gR (oH181 s0 s1 s2 g0 g1 g2 c) 1 1 0 = some 2 from rfl)]
  rw [own_bs (show lA (oH181 s0 s1 s2 g0 g1 g2 c) 2 0 = some (3 : Int32) from rfl)]
  rw [if_pos (by decide : ((2 : Int32) < (3 : Int32)))]
  rw [own_bs (show gR (oH181 s0 s1 s2 g0 g1 g2 c) 1 1 0 = some 2 from rfl)]
  rw [own_bs (show rI (oH181 s0 s1 s2 g0 g1 g2 c) 2 0 (2 : Int32) = some s2 from rfl)]
  rw [own_bs (show rI (oH181 s0 s1 s2 g0 g1 g2 c) 5 0 ((3 : Int32) + (2 : Int32)) = some g2 from rfl)]
  rw [own_bs (show wV (oH181 s0 s1 s2 g0 g1 g2 c) 6 0 (1 : Int32) (.int ((((0 : Int32) + (s0 * s1)) + (g0 * s2)) + g2)) = some (oH182 s0 s1 s2 g0 g1 g2 c) from rfl)]
  rw [own_bs (show gR (oH182 s0 s1 s2 g0 g1 g2 c) 1 1 0 = some 2 from rfl)]
  rw [own_bs (show rI (oH182 s0 s1 s2 g0 g1 g2 c) 2 0 (0 : Int32) = some s0 from rfl)]
  rw [own_bs (show gR (oH182 s0 s1 s2 g0 g1 g2 c) 1 1 0 = some 2 from rfl)]
  rw [own_bs (show rI (oH182 s0 s1 s2 g0 g1 g2 c) 2 0 (2 : Int32) = some s2 from rfl)]
  rw [own_letU]
  try rw [show ((1 : Int32) + (1 : Int32)) = (2 : Int32) from rfl]
  try rw [show ((2 : Int32) + (1 : Int32)) = (3 : Int32) from rfl]
  rw [sg8_39]
  rw [own_bs (show gR (oH182 s0 s1 s2 g0 g1 g2 c) 1 1 0 = some 2 from rfl)]
  rw [own_bs (show lA (oH182 s0 s1 s2 g0 g1 g2 c) 2 0 = some (3 : Int32) from rfl)]
  rw [if_neg (by decide : ¬ ((3 : Int32) < (3 : Int32)))]
  rw [Option.bind_some]
  rw [own_letP1]
  rw [own_letP21]
  rw [own_letP221]
  rw [own_letP222]
  try rw [show ((0 : Int32) + (1 : Int32)) = (1 : Int32) from rfl]
  rw [b8_6]
  rw [own_bs (show gR (oH182 s0 s1 s2 g0 g1 g2 c) 1 1 0 = some 2 from rfl)]
  rw [own_bs (show lA (oH182 s0 s1 s2 g0 g1 g2 c) 2 0 = some (3 : Int32) from rfl)]
  rw [if_pos (by decide : ((1 : Int32) < (3 : Int32)))]
  rw [own_bs (show gR (oH182 s0 s1 s2 g0 g1 g2 c) 1 1 2 = some 4 from rfl)]
  rw [own_bs (show rI (oH182 s0 s1 s2 g0 g1 g2 c) 4 0 (1 : Int32) = some ((0 : Int32) + (s0 * (((((0 : Int32) + s0) + s1) + s2) - ((0 : Int32) + s0)))) from rfl)]
  rw [own_bs (show rI (oH182 s0 s1 s2 g0 g1 g2 c) 5 0 ((3 : Int32) + (1 : Int32)) = some g1 from rfl)]
  rw [own_letV (show ((1 : Int32) + (1 : Int32)) = (2 : Int32) from rfl)]
  rw [sg8_39]
  rw [own_bs (show gR (oH182 s0 s1 s2 g0 g1 g2 c) 1 1 0 = some 2 from rfl)]
  rw [own_bs (show lA (oH182 s0 s1 s2 g0 g1 g2 c) 2 0 = some (3 : Int32) from rfl)]
  rw [if_pos (by decide : ((2 : Int32) < (3 : Int32)))]
  rw [own_bs (show gR (oH182 s0 s1 s2 g0 g1 g2 c) 1 1 0 = some 2 from rfl)]
  rw [own_bs (show rI (oH182 s0 s1 s2 g0 g1 g2 c) 2 0 (2 : Int32) = some s2 from rfl)]
  rw [own_bs (show rI (oH182 s0 s1 s2 g0 g1 g2 c) 5 0 ((3 : Int32) + (2 : Int32)) = some g2 from rfl)]
  rw [own_bs (show wV (oH182 s0 s1 s2 g0 g1 g2 c) 6 0 (2 : Int32) (.int ((((0 : Int32) + (s0 * (((((0 : Int32) + s0) + s1) + s2) - ((0 : Int32) + s0)))) + (g1 * s2)) + g2)) = some (oH183 s0 s1 s2 g0 g1 g2 c) from rfl)]
  rw [own_bs (show gR (oH183 s0 s1 s2 g0 g1 g2 c) 1 1 0 = some 2 from rfl)]
  rw [own_bs (show rI (oH183 s0 s1 s2 g0 g1 g2 c) 2 0 (1 : Int32) = some s1 from rfl)]
  rw [own_bs (show gR (oH183 s0 s1 s2 g0 g1 g2 c) 1 1 0 = some 2 from rfl)]
  rw [own_bs (show rI (oH183 s0 s1 s2 g0 g1 g2 c) 2 0 (2 : Int32) = some s2 from rfl)]
  rw [own_letU]
  try rw [show ((2 : Int32) + (1 : Int32)) = (3 : Int32) from rfl]
  try rw [show ((2 : Int32) + (1 : Int32)) = (3 : Int32) from rfl]
  rw [sg8_39]
  rw [own_bs (show gR (oH183 s0 s1 s2 g0 g1 g2 c) 1 1 0 = some 2 from rfl)]
  rw [own_bs (show lA (oH183 s0 s1 s2 g0 g1 g2 c) 2 0 = some (3 : Int32) from rfl)]
  rw [if_neg (by decide : ¬ ((3 : Int32) < (3 : Int32)))]
  rw [Option.bind_some]
  rw [own_letP1]
  rw [own_letP21]
  rw [own_letP221]
  rw [own_letP222]
  try rw [show ((1 : Int32) + (1 : Int32)) = (2 : Int32) from rfl]
  rw [b8_6]
  rw [own_bs (show gR (oH183 s0 s1 s2 g0 g1 g2 c) 1 1 0 = some 2 from rfl)]
  rw [own_bs (show lA (oH183 s0 s1 s2 g0 g1 g2 c) 2 0 = some (3 : Int32) from rfl)]
  rw [if_pos (by decide : ((2 : Int32) < (3 : Int32)))]
  rw [own_bs (show gR (oH183 s0 s1 s2 g0 g1 g2 c) 1 1 2 = some 4 from rfl)]
  rw [own_bs (show rI (oH183 s0 s1 s2 g0 g1 g2 c) 4 0 (2 : Int32) = some (((0 : Int32) + (s0 * (((((0 : Int32) + s0) + s1) + s2) - ((0 : Int32) + s0)))) + (s1 * (((((0 : Int32) + s0) + s1) + s2) - (((0 : Int32) + s0) + s1)))) from rfl)]
  rw [own_bs (show rI (oH183 s0 s1 s2 g0 g1 g2 c) 5 0 ((3 : Int32) + (2 : Int32)) = some g2 from rfl)]
  rw [own_letV (show ((2 : Int32) + (1 : Int32)) = (3 : Int32) from rfl)]
  rw [sg8_39]
  rw [own_bs (show gR (oH183 s0 s1 s2 g0 g1 g2 c) 1 1 0 = some 2 from rfl)]
  rw [own_bs (show lA (oH183 s0 s1 s2 g0 g1 g2 c) 2 0 = some (3 : Int32) from rfl)]
  rw [if_neg (by decide : ¬ ((3 : Int32) < (3 : Int32)))]
  rw [Option.bind_some]
  rw [own_letP1]
  rw [own_letP21]
  rw [own_letP221]
  rw [own_letP222]
  try rw [show ((2 : Int32) + (1 : Int32)) = (3 : Int32) from rfl]
  rw [b8_6]
  rw [own_bs (show gR (oH183 s0 s1 s2 g0 g1 g2 c) 1 1 0 = some 2 from rfl)]
  rw [own_bs (show lA (oH183 s0 s1 s2 g0 g1 g2 c) 2 0 = some (3 : Int32) from rfl)]
  rw [if_neg (by decide : ¬ ((3 : Int32) < (3 : Int32)))]
set_option maxRecDepth 20000 in
set_option maxHeartbeats 4000000 in
theorem own_c_3_3 (s0 s1 s2 s3 g0 g1 g2 g3 : Int32) (h0 : 0 ≤ s0.toInt ∧ s0.toInt ≤ 512) (h1 : 0 ≤ s1.toInt ∧ s1.toInt ≤ 512) (h2 : 0 ≤ s2.toInt ∧ s2.toInt ≤ 512) : ∃ D', b0_128 (oH93 s0 s1 s2) s0 s1 s2 s3 (3 : Int32) (3 : Int32) g0 g1 g2 g3 0 = some ((1 : Int32), D') := by
  rw [b0_128]
  rw [if_pos (by decide : ((3 : Int32) < (4 : Int32)))]
  rw [b0_140]
  rw [own_letV (show List.length (oH93 s0 s1 s2) = 1 from rfl)]
  rw [own_letV (show (oH93 s0 s1 s2) ++ ([(1, [.null, .null, .null, .int (0 : Int32)])] : Hp) = (oH94 s0 s1 s2) from rfl)]
  obtain ⟨c, h1⟩ := own_f1_3 s0 s1 s2 s3 g0 g1 g2 g3 h0 h1 h2
  rw [h1]
  rw [Option.bind_some]
  rw [own_letV (show List.length (oH112 s0 s1 s2 c) = 5 from rfl)]
  rw [own_bs (show nA (oH112 s0 s1 s2 c) 0 (8 : Int32) 8 (.int (0 : Int32)) = some (oH113 s0 s1 s2 c) from rfl)]
  rw [own_bs (show wV (oH113 s0 s1 s2 c) 5 0 (0 : Int32) (.int (100 : Int32)) = some (oH114 s0 s1 s2 c) from rfl)]
  rw [own_bs (show wV (oH114 s0 s1 s2 c) 5 0 (1 : Int32) (.int (101 : Int32)) = some (oH115 s0 s1 s2 c) from rfl)]
  rw [own_bs (show wV (oH115 s0 s1 s2 c) 5 0 (2 : Int32) (.int (102 : Int32)) = some (oH116 s0 s1 s2 c) from rfl)]
  rw [own_bs (show wV (oH116 s0 s1 s2 c) 5 0 (3 : Int32) (.int (103 : Int32)) = some (oH117 s0 s1 s2 c) from rfl)]
  rw [own_bs (show wV (oH117 s0 s1 s2 c) 5 0 (4 : Int32) (.int (104 : Int32)) = some (oH118 s0 s1 s2 c) from rfl)]
  rw [own_bs (show wV (oH118 s0 s1 s2 c) 5 0 (5 : Int32) (.int (105 : Int32)) = some (oH119 s0 s1 s2 c) from rfl)]
  rw [own_bs (show wV (oH119 s0 s1 s2 c) 5 0 (6 : Int32) (.int (106 : Int32)) = some (oH120 s0 s1 s2 c) from rfl)]
  rw [own_bs (show wV (oH120 s0 s1 s2 c) 5 0 (7 : Int32) (.int (107 : Int32)) = some (oH121 s0 s1 s2 c) from rfl)]
  rw [own_bs (show wV (oH121 s0 s1 s2 c) 5 0 (3 : Int32) (.int g0) = some (oH169 s0 s1 s2 g0 c) from rfl)]
  rw [own_bs (show wV (oH169 s0 s1 s2 g0 c) 5 0 ((3 : Int32) + (1 : Int32)) (.int g1) = some (oH170 s0 s1 s2 g0 g1 c) from rfl)]
  rw [if_neg (by decide : ¬ ((3 : Int32) < (3 : Int32)))]
  rw [own_bs (show wV (oH170 s0 s1 s2 g0 g1 c) 5 0 ((3 : Int32) + (2 : Int32)) (.int g2) = some (oH172 s0 s1 s2 g0 g1 g2 c) from rfl)]
  rw [b0_238]
  rw [if_pos (by decide : ((3 : Int32) < (4 : Int32)))]
  rw [b0_253]
  rw [own_letV (show List.length (oH172 s0 s1 s2 g0 g1 g2 c) = 6 from rfl)]
  rw [own_bs (show nA (oH172 s0 s1 s2 g0 g1 g2 c) 0 (7 : Int32) 7 (.int (0 : Int32)) = some (oH173 s0 s1 s2 g0 g1 g2 c) from rfl)]
  rw [own_bs (show wV (oH173 s0 s1 s2 g0 g1 g2 c) 6 0 (0 : Int32) (.int (-1 : Int32)) = some (oH174 s0 s1 s2 g0 g1 g2 c) from rfl)]
  rw [own_bs (show wV (oH174 s0 s1 s2 g0 g1 g2 c) 6 0 (1 : Int32) (.int (-1 : Int32)) = some (oH175 s0 s1 s2 g0 g1 g2 c) from rfl)]
  rw [own_bs (show wV (oH175 s0 s1 s2 g0 g1 g2 c) 6 0 (2 : Int32) (.int (-1 : Int32)) = some (oH176 s0 s1 s2 g0 g1 g2 c) from rfl)]
  rw [own_bs (show wV (oH176 s0 s1 s2 g0 g1 g2 c) 6 0 (3 : Int32) (.int (-1 : Int32)) = some (oH177 s0 s1 s2 g0 g1 g2 c) from rfl)]
  rw [own_bs (show wV (oH177 s0 s1 s2 g0 g1 g2 c) 6 0 (4 : Int32) (.int (-1 : Int32)) = some (oH178 s0 s1 s2 g0 g1 g2 c) from rfl)]
  rw [own_bs (show wV (oH178 s0 s1 s2 g0 g1 g2 c) 6 0 (5 : Int32) (.int (-1 : Int32)) = some (oH179 s0 s1 s2 g0 g1 g2 c) from rfl)]
  rw [own_bs (show wV (oH179 s0 s1 s2 g0 g1 g2 c) 6 0 (6 : Int32) (.int (-1 : Int32)) = some (oH180 s0 s1 s2 g0 g1 g2 c) from rfl)]
  rw [own_bs (show ck (oH180 s0 s1 s2 g0 g1 g2 c) 1 1 = some 1 from rfl)]
  rw [own_f8_3_3 s0 s1 s2 s3 g0 g1 g2 g3 c]
  rw [Option.bind_some]
  rw [own_letU]
  rw [own_letU]
  rw [own_letU]
  rw [own_letU]
  rw [own_letU]
  rw [own_letU]
  rw [if_neg (by decide : ¬ ((3 : Int32) = (4 : Int32)))]
  rw [b0_374]
  rw [own_letU]
  rw [own_letU]
  rw [own_letU]
  rw [own_letU]
  rw [own_letU]
  rw [own_letU]
  rw [own_letU]
  rw [own_letU]
  rw [if_neg (by decide : ¬ ((3 : Int32) = (2 : Int32)))]
  rw [if_pos (by decide : ((3 : Int32) = (3 : Int32)))]
  rw [own_bs (show rI (oH183 s0 s1 s2 g0 g1 g2 c) 6 0 (0 : Int32) = some (((0 : Int32) + (g0 * s1)) + g1) from rfl)]
  rw [if_pos (own_r0 s0 s1 s2 s3 g0 g1 g2 g3)]
  rw [own_bs (show rI (oH183 s0 s1 s2 g0 g1 g2 c) 6 0 (1 : Int32) = some ((((0 : Int32) + (s0 * s1)) + (g0 * s2)) + g2) from rfl)]
  rw [if_pos (own_r1 s0 s1 s2 s3 g0 g1 g2 g3)]
  rw [own_bs (show rI (oH183 s0 s1 s2 g0 g1 g2 c) 6 0 (2 : Int32) = some ((((0 : Int32) + (s0 * (((((0 : Int32) + s0) + s1) + s2) - ((0 : Int32) + s0)))) + (g1 * s2)) + g2) from rfl)]
  rw [if_pos (own_r2 s0 s1 s2 s3 g0 g1 g2 g3)]
  rw [own_bs (show rI (oH183 s0 s1 s2 g0 g1 g2 c) 6 0 (3 : Int32) = some (-1 : Int32) from rfl)]
  rw [if_pos (by decide : ((-1 : Int32) = (-1 : Int32)))]
  rw [own_bs (show rI (oH183 s0 s1 s2 g0 g1 g2 c) 6 0 (4 : Int32) = some (-1 : Int32) from rfl)]
  rw [if_pos (by decide : ((-1 : Int32) = (-1 : Int32)))]
  rw [own_bs (show rI (oH183 s0 s1 s2 g0 g1 g2 c) 6 0 (5 : Int32) = some (-1 : Int32) from rfl)]
  rw [if_pos (by decide : ((-1 : Int32) = (-1 : Int32)))]
  rw [own_bs (show rI (oH183 s0 s1 s2 g0 g1 g2 c) 6 0 (6 : Int32) = some (-1 : Int32) from rfl)]
  rw [if_pos (by decide : ((-1 : Int32) = (-1 : Int32)))]
  exact ⟨_, rfl⟩
set_option maxRecDepth 20000 in
set_option maxHeartbeats 4000000 in
theorem own_f1_4 (s0 s1 s2 s3 g0 g1 g2 g3 : Int32) (h0 : 0 ≤ s0.toInt ∧ s0.toInt ≤ 512) (h1 : 0 ≤ s1.toInt ∧ s1.toInt ≤ 512) (h2 : 0 ≤ s2.toInt ∧ s2.toInt ≤ 512) (h3 : 0 ≤ s3.toInt ∧ s3.toInt ≤ 512) : ∃ c : Int64, f1 (oH186 s0 s1 s2 s3) 1 0 = some (oH208 s0 s1 s2 s3 c) := by
  obtain ⟨c, hp, hc⟩ := own_pc4 (oH186 s0 s1 s2 s3) 0 s0 s1 s2 s3 rfl h0 h1 h2 h3
  refine ⟨c, ?_⟩
  rw [f1]
  rw [hp]
  rw [Option.bind_some]
  rw [own_letP1]
  rw [own_letP2]
  rw [if_neg (own_big c hc)]
  rw [own_letV (show List.length (oH186 s0 s1 s2 s3) = 2 from rfl)]
  rw [own_bs (show cA' (oH186 s0 s1 s2 s3) 0 0 8 = some (oH187 s0 s1 s2 s3) from rfl)]
  rw [own_bs (show ck (oH187 s0 s1 s2 s3) 2 0 = some 0 from rfl)]
  rw [own_bs (show pV (oH187 s0 s1 s2 s3) 1 1 0 (.ref 2) = some (oH188 s0 s1 s2 s3) from rfl)]
  rw [own_bs (show lA (oH188 s0 s1 s2 s3) 0 0 = some (4 : Int32) from rfl)]
  rw [own_letV (show List.length (oH188 s0 s1 s2 s3) = 3 from rfl)]
  rw [own_bs (show nA (oH188 s0 s1 s2 s3) 0 ((4 : Int32) + (1 : Int32)) 8 (.int (0 : Int32)) = some (oH190 s0 s1 s2 s3) from rfl)]
  rw [own_bs (show pV (oH190 s0 s1 s2 s3) 1 1 1 (.ref 3) = some (oH191 s0 s1 s2 s3) from rfl)]
  rw [b1_55]
  rw [own_bs (show lA (oH191 s0 s1 s2 s3) 0 0 = some (4 : Int32) from rfl)]
  rw [if_pos (by decide : ((0 : Int32) < (4 : Int32)))]
  rw [own_bs (show gR (oH191 s0 s1 s2 s3) 1 1 1 = some 3 from rfl)]
  rw [own_bs (show gR (oH191 s0 s1 s2 s3) 1 1 1 = some 3 from rfl)]
  rw [own_bs (show rI (oH191 s0 s1 s2 s3) 3 0 (0 : Int32) = some (0 : Int32) from rfl)]
  rw [own_bs (show rI (oH191 s0 s1 s2 s3) 0 0 (0 : Int32) = some s0 from rfl)]
  rw [own_bs (show wV (oH191 s0 s1 s2 s3) 3 0 ((0 : Int32) + (1 : Int32)) (.int ((0 : Int32) + s0)) = some (oH193 s0 s1 s2 s3) from rfl)]
  try rw [show ((0 : Int32) + (1 : Int32)) = (1 : Int32) from rfl]
  rw [b1_55]
  rw [own_bs (show lA (oH193 s0 s1 s2 s3) 0 0 = some (4 : Int32) from rfl)]
  rw [if_pos (by decide : ((1 : Int32) < (4 : Int32)))]
  rw [own_bs (show gR (oH193 s0 s1 s2 s3) 1 1 1 = some 3 from rfl)]
  rw [own_bs (show gR (oH193 s0 s1 s2 s3) 1 1 1 = some 3 from rfl)]
  rw [own_bs (show rI (oH193 s0 s1 s2 s3) 3 0 (1 : Int32) = some ((0 : Int32) + s0) from rfl)]
  rw [own_bs (show rI (oH193 s0 s1 s2 s3) 0 0 (1 : Int32) = some s1 from rfl)]
  rw [own_bs (show wV (oH193 s0 s1 s2 s3) 3 0 ((1 : Int32) + (1 : Int32)) (.int (((0 : Int32) + s0) + s1)) = some (oH195 s0 s1 s2 s3) from rfl)]
  try rw [show ((1 : Int32) + (1 : Int32)) = (2 : Int32) from rfl]
  rw [b1_55]
  rw [own_bs (show lA (oH195 s0 s1 s2 s3) 0 0 = some (4 : Int32) from rfl)]
  rw [if_pos (by decide : ((2 : Int32) < (4 : Int32)))]
  rw [own_bs (show gR (oH195 s0 s1 s2 s3) 1 1 1 = some 3 from rfl)]
  rw [own_bs (show gR (oH195 s0 s1 s2 s3) 1 1 1 = some 3 from rfl)]
  rw [own_bs (show rI (oH195 s0 s1 s2 s3) 3 0 (2 : Int32) = some (((0 : Int32) + s0) + s1) from rfl)]
  rw [own_bs (show rI (oH195 s0 s1 s2 s3) 0 0 (2 : Int32) = some s2 from rfl)]
  rw [own_bs (show wV (oH195 s0 s1 s2 s3) 3 0 ((2 : Int32) + (1 : Int32)) (.int ((((0 : Int32) + s0) + s1) + s2)) = some (oH197 s0 s1 s2 s3) from rfl)]
  try rw [show ((2 : Int32) + (1 : Int32)) = (3 : Int32) from rfl]
  rw [b1_55]
  rw [own_bs (show lA (oH197 s0 s1 s2 s3) 0 0 = some (4 : Int32) from rfl)]
  rw [if_pos (by decide : ((3 : Int32) < (4 : Int32)))]
  rw [own_bs (show gR (oH197 s0 s1 s2 s3) 1 1 1 = some 3 from rfl)]
  rw [own_bs (show gR (oH197 s0 s1 s2 s3) 1 1 1 = some 3 from rfl)]
  rw [own_bs (show rI (oH197 s0 s1 s2 s3) 3 0 (3 : Int32) = some ((((0 : Int32) + s0) + s1) + s2) from rfl)]
  rw [own_bs (show rI (oH197 s0 s1 s2 s3) 0 0 (3 : Int32) = some s3 from rfl)]
  rw [own_bs (show wV (oH197 s0 s1 s2 s3) 3 0 ((3 : Int32) + (1 : Int32)) (.int (((((0 : Int32) + s0) + s1) + s2) + s3)) = some (oH199 s0 s1 s2 s3) from rfl)]
  try rw [show ((3 : Int32) + (1 : Int32)) = (4 : Int32) from rfl]
  rw [b1_55]
  rw [own_bs (show lA (oH199 s0 s1 s2 s3) 0 0 = some (4 : Int32) from rfl)]
  rw [if_neg (by decide : ¬ ((4 : Int32) < (4 : Int32)))]
  rw [own_bs (show lA (oH199 s0 s1 s2 s3) 0 0 = some (4 : Int32) from rfl)]
  rw [own_letV (show List.length (oH199 s0 s1 s2 s3) = 4 from rfl)]
  rw [own_bs (show nA (oH199 s0 s1 s2 s3) 0 (4 : Int32) 8 (.int (0 : Int32)) = some (oH200 s0 s1 s2 s3) from rfl)]
  rw [own_bs (show pV (oH200 s0 s1 s2 s3) 1 1 2 (.ref 4) = some (oH201 s0 s1 s2 s3) from rfl)]
  rw [b1_100]
  rw [own_bs (show lA (oH201 s0 s1 s2 s3) 0 0 = some (4 : Int32) from rfl)]
  rw [if_pos (by decide : ((1 : Int32) < (4 : Int32)))]
  rw [own_bs (show gR (oH201 s0 s1 s2 s3) 1 1 2 = some 4 from rfl)]
  rw [own_bs (show gR (oH201 s0 s1 s2 s3) 1 1 2 = some 4 from rfl)]
  rw [own_bs (show rI (oH201 s0 s1 s2 s3) 4 0 ((1 : Int32) - (1 : Int32)) = some (0 : Int32) from rfl)]
  rw [own_bs (show rI (oH201 s0 s1 s2 s3) 0 0 ((1 : Int32) - (1 : Int32)) = some s0 from rfl)]
  rw [own_bs (show gR (oH201 s0 s1 s2 s3) 1 1 1 = some 3 from rfl)]
  rw [own_bs (show lA (oH201 s0 s1 s2 s3) 0 0 = some (4 : Int32) from rfl)]
  rw [own_bs (show rI (oH201 s0 s1 s2 s3) 3 0 (4 : Int32) = some (((((0 : Int32) + s0) + s1) + s2) + s3) from rfl)]
  rw [own_bs (show gR (oH201 s0 s1 s2 s3) 1 1 1 = some 3 from rfl)]
  rw [own_bs (show rI (oH201 s0 s1 s2 s3) 3 0 (1 : Int32) = some ((0 : Int32) + s0) from rfl)]
  rw [own_bs (show wV (oH201 s0 s1 s2 s3) 4 0 (1 : Int32) (.int ((0 : Int32) + (s0 * ((((((0 : Int32) + s0) + s1) + s2) + s3) - ((0 : Int32) + s0))))) = some (oH203 s0 s1 s2 s3) from rfl)]
  try rw [show ((1 : Int32) + (1 : Int32)) = (2 : Int32) from rfl]
  rw [b1_100]
  rw [own_bs (show lA (oH203 s0 s1 s2 s3) 0 0 = some (4 : Int32) from rfl)]
  rw [if_pos (by decide : ((2 : Int32) < (4 : Int32)))]
  rw [own_bs (show gR (oH203 s0 s1 s2 s3) 1 1 2 = some 4 from rfl)]
  rw [own_bs (show gR (oH203 s0 s1 s2 s3) 1 1 2 = some 4 from rfl)]
  rw [own_bs (show rI (oH203 s0 s1 s2 s3) 4 0 ((2 : Int32) - (1 : Int32)) = some ((0 : Int32) + (s0 * ((((((0 : Int32) + s0) + s1) + s2) + s3) - ((0 : Int32) + s0)))) from rfl)]
  rw [own_bs (show rI (oH203 s0 s1 s2 s3) 0 0 ((2 : Int32) - (1 : Int32)) = some s1 from rfl)]
  rw [own_bs (show gR (oH203 s0 s1 s2 s3) 1 1 1 = some 3 from rfl)]
  rw [own_bs (show lA (oH203 s0 s1 s2 s3) 0 0 = some (4 : Int32) from rfl)]
  rw [own_bs (show rI (oH203 s0 s1 s2 s3) 3 0 (4 : Int32) = some (((((0 : Int32) + s0) + s1) + s2) + s3) from rfl)]
  rw [own_bs (show gR (oH203 s0 s1 s2 s3) 1 1 1 = some 3 from rfl)]
  rw [own_bs (show rI (oH203 s0 s1 s2 s3) 3 0 (2 : Int32) = some (((0 : Int32) + s0) + s1) from rfl)]
  rw [own_bs (show wV (oH203 s0 s1 s2 s3) 4 0 (2 : Int32) (.int (((0 : Int32) + (s0 * ((((((0 : Int32) + s0) + s1) + s2) + s3) - ((0 : Int32) + s0)))) + (s1 * ((((((0 : Int32) + s0) + s1) + s2) + s3) - (((0 : Int32) + s0) + s1))))) = some (oH205 s0 s1 s2 s3) from rfl)]
  try rw [show ((2 : Int32) + (1 : Int32)) = (3 : Int32) from rfl]
  rw [b1_100]
  rw [own_bs (show lA (oH205 s0 s1 s2 s3) 0 0 = some (4 : Int32) from rfl)]
  rw [if_pos (by decide : ((3 : Int32) < (4 : Int32)))]
  rw [own_bs (show gR (oH205 s0 s1 s2 s3) 1 1 2 = some 4 from rfl)]
  rw [own_bs (show gR (oH205 s0 s1 s2 s3) 1 1 2 = some 4 from rfl)]
  rw [own_bs (show rI (oH205 s0 s1 s2 s3) 4 0 ((3 : Int32) - (1 : Int32)) = some (((0 : Int32) + (s0 * ((((((0 : Int32) + s0) + s1) + s2) + s3) - ((0 : Int32) + s0)))) + (s1 * ((((((0 : Int32) + s0) + s1) + s2) + s3) - (((0 : Int32) + s0) + s1)))) from rfl)]
  rw [own_bs (show rI (oH205 s0 s1 s2 s3) 0 0 ((3 : Int32) - (1 : Int32)) = some s2 from rfl)]
  rw [own_bs (show gR (oH205 s0 s1 s2 s3) 1 1 1 = some 3 from rfl)]
  rw [own_bs (show lA (oH205 s0 s1 s2 s3) 0 0 = some (4 : Int32) from rfl)]
  rw [own_bs (show rI (oH205 s0 s1 s2 s3) 3 0 (4 : Int32) = some (((((0 : Int32) + s0) + s1) + s2) + s3) from rfl)]
  rw [own_bs (show gR (oH205 s0 s1 s2 s3) 1 1 1 = some 3 from rfl)]
  rw [own_bs (show rI (oH205 s0 s1 s2 s3) 3 0 (3 : Int32) = some ((((0 : Int32) + s0) + s1) + s2) from rfl)]
  rw [own_bs (show wV (oH205 s0 s1 s2 s3) 4 0 (3 : Int32) (.int ((((0 : Int32) + (s0 * ((((((0 : Int32) + s0) + s1) + s2) + s3) - ((0 : Int32) + s0)))) + (s1 * ((((((0 : Int32) + s0) + s1) + s2) + s3) - (((0 : Int32) + s0) + s1)))) + (s2 * ((((((0 : Int32) + s0) + s1) + s2) + s3) - ((((0 : Int32) + s0) + s1) + s2))))) = some (oH207 s0 s1 s2 s3) from rfl)]
  try rw [show ((3 : Int32) + (1 : Int32)) = (4 : Int32) from rfl]
  rw [b1_100]
  rw [own_bs (show lA (oH207 s0 s1 s2 s3) 0 0 = some (4 : Int32) from rfl)]
  rw [if_neg (by decide : ¬ ((4 : Int32) < (4 : Int32)))]
  rw [own_bs (show pV (oH207 s0 s1 s2 s3) 1 1 3 (.int (c.toInt32)) = some (oH208 s0 s1 s2 s3 c) from rfl)]
set_option maxRecDepth 20000 in
set_option maxHeartbeats 4000000 in
theorem own_f8_4_0 (s0 s1 s2 s3 g0 g1 g2 g3 : Int32) (c : Int64) : f8 (oH230 s0 s1 s2 s3 g0 g1 g2 g3 c) 1 5 (0 : Int32) 6 = some (oH240 s0 s1 s2 s3 g0 g1 g2 g3 c) := by
  rw [f8]
  rw [b8_6]
  rw [own_bs (show gR (oH230 s0 s1 s2 s3 g0 g1 g2 g3 c) 1 1 0 = some 2 from rfl)]
  rw [own_bs (show lA (oH230 s0 s1 s2 s3 g0 g1 g2 g3 c) 2 0 = some (4 : Int32) from rfl)]
  rw [if_pos (by decide : ((0 : Int32) < (4 : Int32)))]
  rw [own_bs (show gR (oH230 s0 s1 s2 s3 g0 g1 g2 g3 c) 1 1 2 = some 4 from rfl)]
  rw [own_bs (show rI (oH230 s0 s1 s2 s3 g0 g1 g2 g3 c) 4 0 (0 : Int32) = some (0 : Int32) from rfl)]
  rw [own_bs (show rI (oH230 s0 s1 s2 s3 g0 g1 g2 g3 c) 5 0 ((0 : Int32) + (0 : Int32)) = some g0 from rfl)]
  rw [own_letV (show ((0 : Int32) + (1 : Int32)) = (1 : Int32) from rfl)]
  rw [sg8_39]
  rw [own_bs (show gR (oH230 s0 s1 s2 s3 g0 g1 g2 g3 c) 1 1 0 = some 2 from rfl)]
  rw [own_bs (show lA (oH230 s0 s1 s2 s3 g0 g1 g2 g3 c) 2 0 = some (4 : Int32) from rfl)]
  rw [if_pos (by decide : ((1 : Int32) < (4 : Int32)))]
  rw [own_bs (show gR (oH230 s0 s1 s2 s3 g0 g1 g2 g3 c) 1 1 0 = some 2 from rfl)]
  rw [own_bs (show rI (oH230 s0 s1 s2 s3 g0 g1 g2 g3 c) 2 0 (1 : Int32) = some s1 from rfl)]
  rw [own_bs (show rI (oH230 s0 s1 s2 s3 g0 g1 g2 g3 c) 5 0 ((0 : Int32) + (1 : Int32)) = some g1 from rfl)]
  rw [own_bs (show wV (oH230 s0 s1 s2 s3 g0 g1 g2 g3 c) 6 0 (0 : Int32) (.int (((0 : Int32) + (g0 * s1)) + g1)) = some (oH231 s0 s1 s2 s3 g0 g1 g2 g3 c) from rfl)]
  rw [own_bs (show gR (oH231 s0 s1 s2 s3 g0 g1 g2 g3 c) 1 1 0 = some 2 from rfl)]
  rw [own_bs (show rI (oH231 s0 s1 s2 s3 g0 g1 g2 g3 c) 2 0 (0 : Int32) = some s0 from rfl)]
  rw [own_bs (show gR (oH231 s0 s1 s2 s3 g0 g1 g2 g3 c) 1 1 0 = some 2 from rfl)]
  rw [own_bs (show rI (oH231 s0 s1 s2 s3 g0 g1 g2 g3 c) 2 0 (1 : Int32) = some s1 from rfl)]
  rw [own_letU]
  try rw [show ((0 : Int32) + (1 : Int32)) = (1 : Int32) from rfl]
  try rw [show ((1 : Int32) + (1 : Int32)) = (2 : Int32) from rfl]
  rw [sg8_39]
  rw [own_bs (show gR (oH231 s0 s1 s2 s3 g0 g1 g2 g3 c) 1 1 0 = some 2 from rfl)]
  rw [own_bs (show lA (oH231 s0 s1 s2 s3 g0 g1 g2 g3 c) 2 0 = some (4 : Int32) from rfl)]
  rw [if_pos (by decide : ((2 : Int32) < (4 : Int32)))]
  rw [own_bs (show gR (oH231 s0 s1 s2 s3 g0 g1 g2 g3 c) 1 1 0 = some 2 from rfl)]
  rw [own_bs (show rI (oH231 s0 s1 s2 s3 g0 g1 g2 g3 c) 2 0 (2 : Int32) = some s2 from rfl)]
  rw [own_bs (show rI (oH231 s0 s1 s2 s3 g0 g1 g2 g3 c) 5 0 ((0 : Int32) + (2 : Int32)) = some g2 from rfl)]
  rw [own_bs (show wV (oH231 s0 s1 s2 s3 g0 g1 g2 g3 c) 6 0 (1 : Int32) (.int ((((0 : Int32) + (s0 * s1)) + (g0 * s2)) + g2)) = some (oH232 s0 s1 s2 s3 g0 g1 g2 g3 c) from rfl)]
  rw [own_bs (show gR (oH232 s0 s1 s2 s3 g0 g1 g2 g3 c) 1 1 0 = some 2 from rfl)]
  rw [own_bs (show rI (oH232 s0 s1 s2 s3 g0 g1 g2 g3 c) 2 0 (0 : Int32) = some s0 from rfl)]
  rw [own_bs (show gR (oH232 s0 s1 s2 s3 g0 g1 g2 g3 c) 1 1 0 = some 2 from rfl)]
  rw [own_bs (show rI (oH232 s0 s1 s2 s3 g0 g1 g2 g3 c) 2 0 (2 : Int32) = some s2 from rfl)]
  rw [own_letU]
  try rw [show ((1 : Int32) + (1 : Int32)) = (2 : Int32) from rfl]
  try rw [show ((2 : Int32) + (1 : Int32)) = (3 : Int32) from rfl]
  rw [sg8_39]
  rw [own_bs (show gR (oH232 s0 s1 s2 s3 g0 g1 g2 g3 c) 1 1 0 = some 2 from rfl)]
  rw [own_bs (show lA (oH232 s0 s1 s2 s3 g0 g1 g2 g3 c) 2 0 = some (4 : Int32) from rfl)]
  rw [if_pos (by decide : ((3 : Int32) < (4 : Int32)))]
  rw [own_bs (show gR (oH232 s0 s1 s2 s3 g0 g1 g2 g3 c) 1 1 0 = some 2 from rfl)]
  rw [own_bs (show rI (oH232 s0 s1 s2 s3 g0 g1 g2 g3 c) 2 0 (3 : Int32) = some s3 from rfl)]
  rw [own_bs (show rI (oH232 s0 s1 s2 s3 g0 g1 g2 g3 c) 5 0 ((0 : Int32) + (3 : Int32)) = some g3 from rfl)]
  rw [own_bs (show wV (oH232 s0 s1 s2 s3 g0 g1 g2 g3 c) 6 0 (2 : Int32) (.int (((((0 : Int32) + (s0 * s1)) + (s0 * s2)) + (g0 * s3)) + g3)) = some (oH234 s0 s1 s2 s3 g0 g1 g2 g3 c) from rfl)]
  rw [own_bs (show gR (oH234 s0 s1 s2 s3 g0 g1 g2 g3 c) 1 1 0 = some 2 from rfl)]
  rw [own_bs (show rI (oH234 s0 s1 s2 s3 g0 g1 g2 g3 c) 2 0 (0 : Int32) = some s0 from rfl)]
  rw [own_bs (show gR (oH234 s0 s1 s2 s3 g0 g1 g2 g3 c) 1 1 0 = some 2 from rfl)]
  rw [own_bs (show rI (oH234 s0 s1 s2 s3 g0 g1 g2 g3 c) 2 0 (3 : Int32) = some s3 from rfl)]
  rw [own_letU]
  try rw [show ((2 : Int32) + (1 : Int32)) = (3 : Int32) from rfl]
  try rw [show ((3 : Int32) + (1 : Int32)) = (4 : Int32) from rfl]
  rw [sg8_39]
  rw [own_bs (show gR (oH234 s0 s1 s2 s3 g0 g1 g2 g3 c) 1 1 0 = some 2 from rfl)]
  rw [own_bs (show lA (oH234 s0 s1 s2 s3 g0 g1 g2 g3 c) 2 0 = some (4 : Int32) from rfl)]
  rw [if_neg (by decide : ¬ ((4 : Int32) < (4 : Int32)))]
  rw [Option.bind_some]
  rw [own_letP1]
  rw [own_letP21]
  rw [own_letP221]
  rw [own_letP222]
  try rw [show ((0 : Int32) + (1 : Int32)) = (1 : Int32) from rfl]
  rw [b8_6]
  rw [own_bs (show gR (oH234 s0 s1 s2 s3 g0 g1 g2 g3 c) 1 1 0 = some 2 from rfl)]
  rw [own_bs (show lA (oH234 s0 s1 s2 s3 g0 g1 g2 g3 c) 2 0 = some (4 : Int32) from rfl)]
  rw [if_pos (by decide : ((1 : Int32) < (4 : Int32)))]
  rw [own_bs (show gR (oH234 s0 s1 s2 s3 g0 g1 g2 g3 c) 1 1 2 = some 4 from rfl)]
  rw [own_bs (show rI (oH234 s0 s1 s2 s3 g0 g1 g2 g3 c) 4 0 (1 : Int32) = some ((0 : Int32) + (s0 * ((((((0 : Int32) + s0) + s1) + s2) + s3) - ((0 : Int32) + s0)))) from rfl)]
  rw [own_bs (show rI (oH234 s0 s1 s2 s3 g0 g1 g2 g3 c) 5 0 ((0 : Int32) + (1 : Int32)) = some g1 from rfl)]
  rw [own_letV (show ((1 : Int32) + (1 : Int32)) = (2 : Int32) from rfl)]
  rw [sg8_39]
  rw [own_bs (show gR (oH234 s0 s1 s2 s3 g0 g1 g2 g3 c) 1 1 0 = some 2 from rfl)]
  rw [own_bs (show lA (oH234 s0 s1 s2 s3 g0 g1 g2 g3 c) 2 0 = some (4 : Int32) from rfl)]
  rw [if_pos (by decide : ((2 : Int32) < (4 : Int32)))]
  rw [own_bs (show gR (oH234 s0 s1 s2 s3 g0 g1 g2 g3 c) 1 1 0 = some 2 from rfl)]
  rw [own_bs (show rI (oH234 s0 s1 s2 s3 g0 g1 g2 g3 c) 2 0 (2 : Int32) = some s2 from rfl)]
  rw [own_bs (show rI (oH234 s0 s1 s2 s3 g0 g1 g2 g3 c) 5 0 ((0 : Int32) + (2 : Int32)) = some g2 from rfl)]
  rw [own_bs (show wV (oH234 s0 s1 s2 s3 g0 g1 g2 g3 c) 6 0 (3 : Int32) (.int ((((0 : Int32) + (s0 * ((((((0 : Int32) + s0) + s1) + s2) + s3) - ((0 : Int32) + s0)))) + (g1 * s2)) + g2)) = some (oH236 s0 s1 s2 s3 g0 g1 g2 g3 c) from rfl)]
  rw [own_bs (show gR (oH236 s0 s1 s2 s3 g0 g1 g2 g3 c) 1 1 0 = some 2 from rfl)]
  rw [own_bs (show rI (oH236 s0 s1 s2 s3 g0 g1 g2 g3 c) 2 0 (1 : Int32) = some s1 from rfl)]
  rw [own_bs (show gR (oH236 s0 s1 s2 s3 g0 g1 g2 g3 c) 1 1 0 = some 2 from rfl)]
  rw [own_bs (show rI (oH236 s0 s1 s2 s3 g0 g1 g2 g3 c) 2 0 (2 : Int32) = some s2 from rfl)]
  rw [own_letU]
  try rw [show ((3 : Int32) + (1 : Int32)) = (4 : Int32) from rfl]
  try rw [show ((2 : Int32) + (1 : Int32)) = (3 : Int32) from rfl]
  rw [sg8_39]
  rw [own_bs (show gR (oH236 s0 s1 s2 s3 g0 g1 g2 g3 c) 1 1 0 = some 2 from rfl)]
  rw [own_bs (show lA (oH236 s0 s1 s2 s3 g0 g1 g2 g3 c) 2 0 = some (4 : Int32) from rfl)]
  rw [if_pos (by decide : ((3 : Int32) < (4 : Int32)))]
  rw [own_bs (show gR (oH236 s0 s1 s2 s3 g0 g1 g2 g3 c) 1 1 0 = some 2 from rfl)]
  rw [own_bs (show rI (oH236 s0 s1 s2 s3 g0 g1 g2 g3 c) 2 0 (3 : Int32) = some s3 from rfl)]
  rw [own_bs (show rI (oH236 s0 s1 s2 s3 g0 g1 g2 g3 c) 5 0 ((0 : Int32) + (3 : Int32)) = some g3 from rfl)]
  rw [own_bs (show wV (oH236 s0 s1 s2 s3 g0 g1 g2 g3 c) 6 0 (4 : Int32) (.int (((((0 : Int32) + (s0 * ((((((0 : Int32) + s0) + s1) + s2) + s3) - ((0 : Int32) + s0)))) + (s1 * s2)) + (g1 * s3)) + g3)) = some (oH238 s0 s1 s2 s3 g0 g1 g2 g3 c) from rfl)]
  rw [own_bs (show gR (oH238 s0 s1 s2 s3 g0 g1 g2 g3 c) 1 1 0 = some 2 from rfl)]
  rw [own_bs (show rI (oH238 s0 s1 s2 s3 g0 g1 g2 g3 c) 2 0 (1 : Int32) = some s1 from rfl)]
  rw [own_bs (show gR (oH238 s0 s1 s2 s3 g0 g1 g2 g3 c) 1 1 0 = some 2 from rfl)]
  rw [own_bs (show rI (oH238 s0 s1 s2 s3 g0 g1 g2 g3 c) 2 0 (3 : Int32) = some s3 from rfl)]
  rw [own_letU]
  try rw [show ((4 : Int32) + (1 : Int32)) = (5 : Int32) from rfl]
  try rw [show ((3 : Int32) + (1 : Int32)) = (4 : Int32) from rfl]
  rw [sg8_39]
  rw [own_bs (show gR (oH238 s0 s1 s2 s3 g0 g1 g2 g3 c) 1 1 0 = some 2 from rfl)]
  rw [own_bs (show lA (oH238 s0 s1 s2 s3 g0 g1 g2 g3 c) 2 0 = some (4 : Int32) from rfl)]
  rw [if_neg (by decide : ¬ ((4 : Int32) < (4 : Int32)))]
  rw [Option.bind_some]
  rw [own_letP1]
  rw [own_letP21]
  rw [own_letP221]
  rw [own_letP222]
  try rw [show ((1 : Int32) + (1 : Int32)) = (2 : Int32) from rfl]
  rw [b8_6]
  rw [own_bs (show gR (oH238 s0 s1 s2 s3 g0 g1 g2 g3 c) 1 1 0 = some 2 from rfl)]
  rw [own_bs (show lA (oH238 s0 s1 s2 s3 g0 g1 g2 g3 c) 2 0 = some (4 : Int32) from rfl)]
  rw [if_pos (by decide : ((2 : Int32) < (4 : Int32)))]
  rw [own_bs (show gR (oH238 s0 s1 s2 s3 g0 g1 g2 g3 c) 1 1 2 = some 4 from rfl)]
  rw [own_bs (show rI (oH238 s0 s1 s2 s3 g0 g1 g2 g3 c) 4 0 (2 : Int32) = some (((0 : Int32) + (s0 * ((((((0 : Int32) + s0) + s1) + s2) + s3) - ((0 : Int32) + s0)))) + (s1 * ((((((0 : Int32) + s0) + s1) + s2) + s3) - (((0 : Int32) + s0) + s1)))) from rfl)]
  rw [own_bs (show rI (oH238 s0 s1 s2 s3 g0 g1 g2 g3 c) 5 0 ((0 : Int32) + (2 : Int32)) = some g2 from rfl)]
  rw [own_letV (show ((2 : Int32) + (1 : Int32)) = (3 : Int32) from rfl)]
  rw [sg8_39]
  rw [own_bs (show gR (oH238 s0 s1 s2 s3 g0 g1 g2 g3 c) 1 1 0 = some 2 from rfl)]
  rw [own_bs (show lA (oH238 s0 s1 s2 s3 g0 g1 g2 g3 c) 2 0 = some (4 : Int32) from rfl)]
  rw [if_pos (by decide : ((3 : Int32) < (4 : Int32)))]
  rw [own_bs (show gR (oH238 s0 s1 s2 s3 g0 g1 g2 g3 c) 1 1 0 = some 2 from rfl)]
  rw [own_bs (show rI (oH238 s0 s1 s2 s3 g0 g1 g2 g3 c) 2 0 (3 : Int32) = some s3 from rfl)]
  rw [own_bs (show rI (oH238 s0 s1 s2 s3 g0 g1 g2 g3 c) 5 0 ((0 : Int32) + (3 : Int32)) = some g3 from rfl)]
  rw [own_bs (show wV (oH238 s0 s1 s2 s3 g0 g1 g2 g3 c) 6 0 (5 : Int32) (.int (((((0 : Int32) + (s0 * ((((((0 : Int32) + s0) + s1) + s2) + s3) - ((0 : Int32) + s0)))) + (s1 * ((((((0 : Int32) + s0) + s1) + s2) + s3) - (((0 : Int32) + s0) + s1)))) + (g2 * s3)) + g3)) = some (oH240 s0 s1 s2 s3 g0 g1 g2 g3 c) from rfl)]
  rw [own_bs (show gR (oH240 s0 s1 s2 s3 g0 g1 g2 g3 c) 1 1 0 = some 2 from rfl)]
  rw [own_bs (show rI (oH240 s0 s1 s2 s3 g0 g1 g2 g3 c) 2 0 (2 : Int32) = some s2 from rfl)]
  rw [own_bs (show gR (oH240 s0 s1 s2 s3 g0 g1 g2 g3 c) 1 1 0 = some 2 from rfl)]
  rw [own_bs (show rI (oH240 s0 s1 s2 s3 g0 g1 g2 g3 c) 2 0 (3 : Int32) = some s3 from rfl)]
  rw [own_letU]
  try rw [show ((5 : Int32) + (1 : Int32)) = (6 : Int32) from rfl]
  try rw [show ((3 : Int32) + (1 : Int32)) = (4 : Int32) from rfl]
  rw [sg8_39]
  rw [own_bs (show gR (oH240 s0 s1 s2 s3 g0 g1 g2 g3 c) 1 1 0 = some 2 from rfl)]
  rw [own_bs (show lA (oH240 s0 s1 s2 s3 g0 g1 g2 g3 c) 2 0 = some (4 : Int32) from rfl)]
  rw [if_neg (by decide : ¬ ((4 : Int32) < (4 : Int32)))]
  rw [Option.bind_some]
  rw [own_letP1]
  rw [own_letP21]
  rw [own_letP221]
  rw [own_letP222]
  try rw [show ((2 : Int32) + (1 : Int32)) = (3 : Int32) from rfl]
  rw [b8_6]
  rw [own_bs (show gR (oH240 s0 s1 s2 s3 g0 g1 g2 g3 c) 1 1 0 = some 2 from rfl)]
  rw [own_bs (show lA (oH240 s0 s1 s2 s3 g0 g1 g2 g3 c) 2 0 = some (4 : Int32) from rfl)]
  rw [if_pos (by decide : ((3 : Int32) < (4 : Int32)))]
  rw [own_bs (show gR (oH240 s0 s1 s2 s3 g0 g1 g2 g3 c) 1 1 2 = some 4 from rfl)]
  rw [own_bs (show rI (oH240 s0 s1 s2 s3 g0 g1 g2 g3 c) 4 0 (3 : Int32) = some ((((0 : Int32) + (s0 * ((((((0 : Int32) + s0) + s1) + s2) + s3) - ((0 : Int32) + s0)))) + (s1 * ((((((0 : Int32) + s0) + s1) + s2) + s3) - (((0 : Int32) + s0) + s1)))) + (s2 * ((((((0 : Int32) + s0) + s1) + s2) + s3) - ((((0 : Int32) + s0) + s1) + s2)))) from rfl)]
  rw [own_bs (show rI (oH240 s0 s1 s2 s3 g0 g1 g2 g3 c) 5 0 ((0 : Int32) + (3 : Int32)) = some g3 from rfl)]
  rw [own_letV (show ((3 : Int32) + (1 : Int32)) = (4 : Int32) from rfl)]
  rw [sg8_39]
  rw [own_bs (show gR (oH240 s0 s1 s2 s3 g0 g1 g2 g3 c) 1 1 0 = some 2 from rfl)]
  rw [own_bs (show lA (oH240 s0 s1 s2 s3 g0 g1 g2 g3 c) 2 0 = some (4 : Int32) from rfl)]
  rw [if_neg (by decide : ¬ ((4 : Int32) < (4 : Int32)))]
  rw [Option.bind_some]
  rw [own_letP1]
  rw [own_letP21]
  rw [own_letP221]
  rw [own_letP222]
  try rw [show ((3 : Int32) + (1 : Int32)) = (4 : Int32) from rfl]
  rw [b8_6]
  rw [own_bs (show gR (oH240 s0 s1 s2 s3 g0 g1 g2 g3 c) 1 1 0 = some 2 from rfl)]
  rw [own_bs (show lA (oH240 s0 s1 s2 s3 g0 g1 g2 g3 c) 2 0 = some (4 : Int32) from rfl)]
  rw [if_neg (by decide : ¬ ((4 : Int32) < (4 : Int32)))]
set_option maxRecDepth 20000 in
set_option maxHeartbeats 4000000 in
theorem own_c_4_0 (s0 s1 s2 s3 g0 g1 g2 g3 : Int32) (h0 : 0 ≤ s0.toInt ∧ s0.toInt ≤ 512) (h1 : 0 ≤ s1.toInt ∧ s1.toInt ≤ 512) (h2 : 0 ≤ s2.toInt ∧ s2.toInt ≤ 512) (h3 : 0 ≤ s3.toInt ∧ s3.toInt ≤ 512) : ∃ D', b0_128 (oH184 s0 s1 s2) s0 s1 s2 s3 (4 : Int32) (0 : Int32) g0 g1 g2 g3 0 = some ((1 : Int32), D') := by
  rw [b0_128]
  rw [if_neg (by decide : ¬ ((4 : Int32) < (4 : Int32)))]
  rw [own_bs (show wV (oH184 s0 s1 s2) 0 0 (3 : Int32) (.int s3) = some (oH185 s0 s1 s2 s3) from rfl)]
  rw [b0_140]
  rw [own_letV (show List.length (oH185 s0 s1 s2 s3) = 1 from rfl)]
  rw [own_letV (show (oH185 s0 s1 s2 s3) ++ ([(1, [.null, .null, .null, .int (0 : Int32)])] : Hp) = (oH186 s0 s1 s2 s3) from rfl)]
  obtain ⟨c, h1⟩ := own_f1_4 s0 s1 s2 s3 g0 g1 g2 g3 h0 h1 h2 h3
  rw [h1]
  rw [Option.bind_some]
  rw [own_letV (show List.length (oH208 s0 s1 s2 s3 c) = 5 from rfl)]
  rw [own_bs (show nA (oH208 s0 s1 s2 s3 c) 0 (8 : Int32) 8 (.int (0 : Int32)) = some (oH209 s0 s1 s2 s3 c) from rfl)]
  rw [own_bs (show wV (oH209 s0 s1 s2 s3 c) 5 0 (0 : Int32) (.int (100 : Int32)) = some (oH210 s0 s1 s2 s3 c) from rfl)]
  rw [own_bs (show wV (oH210 s0 s1 s2 s3 c) 5 0 (1 : Int32) (.int (101 : Int32)) = some (oH211 s0 s1 s2 s3 c) from rfl)]
  rw [own_bs (show wV (oH211 s0 s1 s2 s3 c) 5 0 (2 : Int32) (.int (102 : Int32)) = some (oH212 s0 s1 s2 s3 c) from rfl)]
  rw [own_bs (show wV (oH212 s0 s1 s2 s3 c) 5 0 (3 : Int32) (.int (103 : Int32)) = some (oH213 s0 s1 s2 s3 c) from rfl)]
  rw [own_bs (show wV (oH213 s0 s1 s2 s3 c) 5 0 (4 : Int32) (.int (104 : Int32)) = some (oH214 s0 s1 s2 s3 c) from rfl)]
  rw [own_bs (show wV (oH214 s0 s1 s2 s3 c) 5 0 (5 : Int32) (.int (105 : Int32)) = some (oH215 s0 s1 s2 s3 c) from rfl)]
  rw [own_bs (show wV (oH215 s0 s1 s2 s3 c) 5 0 (6 : Int32) (.int (106 : Int32)) = some (oH216 s0 s1 s2 s3 c) from rfl)]
  rw [own_bs (show wV (oH216 s0 s1 s2 s3 c) 5 0 (7 : Int32) (.int (107 : Int32)) = some (oH217 s0 s1 s2 s3 c) from rfl)]
  rw [own_bs (show wV (oH217 s0 s1 s2 s3 c) 5 0 (0 : Int32) (.int g0) = some (oH218 s0 s1 s2 s3 g0 c) from rfl)]
  rw [own_bs (show wV (oH218 s0 s1 s2 s3 g0 c) 5 0 ((0 : Int32) + (1 : Int32)) (.int g1) = some (oH219 s0 s1 s2 s3 g0 g1 c) from rfl)]
  rw [if_neg (by decide : ¬ ((4 : Int32) < (3 : Int32)))]
  rw [own_bs (show wV (oH219 s0 s1 s2 s3 g0 g1 c) 5 0 ((0 : Int32) + (2 : Int32)) (.int g2) = some (oH220 s0 s1 s2 s3 g0 g1 g2 c) from rfl)]
  rw [b0_238]
  rw [if_neg (by decide : ¬ ((4 : Int32) < (4 : Int32)))]
  rw [own_bs (show wV (oH220 s0 s1 s2 s3 g0 g1 g2 c) 5 0 ((0 : Int32) + (3 : Int32)) (.int g3) = some (oH222 s0 s1 s2 s3 g0 g1 g2 g3 c) from rfl)]
  rw [b0_253]
  rw [own_letV (show List.length (oH222 s0 s1 s2 s3 g0 g1 g2 g3 c) = 6 from rfl)]
  rw [own_bs (show nA (oH222 s0 s1 s2 s3 g0 g1 g2 g3 c) 0 (7 : Int32) 7 (.int (0 : Int32)) = some (oH223 s0 s1 s2 s3 g0 g1 g2 g3 c) from rfl)]
  rw [own_bs (show wV (oH223 s0 s1 s2 s3 g0 g1 g2 g3 c) 6 0 (0 : Int32) (.int (-1 : Int32)) = some (oH224 s0 s1 s2 s3 g0 g1 g2 g3 c) from rfl)]
  rw [own_bs (show wV (oH224 s0 s1 s2 s3 g0 g1 g2 g3 c) 6 0 (1 : Int32) (.int (-1 : Int32)) = some (oH225 s0 s1 s2 s3 g0 g1 g2 g3 c) from rfl)]
  rw [own_bs (show wV (oH225 s0 s1 s2 s3 g0 g1 g2 g3 c) 6 0 (2 : Int32) (.int (-1 : Int32)) = some (oH226 s0 s1 s2 s3 g0 g1 g2 g3 c) from rfl)]
  rw [own_bs (show wV (oH226 s0 s1 s2 s3 g0 g1 g2 g3 c) 6 0 (3 : Int32) (.int (-1 : Int32)) = some (oH227 s0 s1 s2 s3 g0 g1 g2 g3 c) from rfl)]
  rw [own_bs (show wV (oH227 s0 s1 s2 s3 g0 g1 g2 g3 c) 6 0 (4 : Int32) (.int (-1 : Int32)) = some (oH228 s0 s1 s2 s3 g0 g1 g2 g3 c) from rfl)]
  rw [own_bs (show wV (oH228 s0 s1 s2 s3 g0 g1 g2 g3 c) 6 0 (5 : Int32) (.int (-1 : Int32)) = some (oH229 s0 s1 s2 s3 g0 g1 g2 g3 c) from rfl)]
  rw [own_bs (show wV (oH229 s0 s1 s2 s3 g0 g1 g2 g3 c) 6 0 (6 : Int32) (.int (-1 : Int32)) = some (oH230 s0 s1 s2 s3 g0 g1 g2 g3 c) from rfl)]
  rw [own_bs (show ck (oH230 s0 s1 s2 s3 g0 g1 g2 g3 c) 1 1 = some 1 from rfl)]
  rw [own_f8_4_0 s0 s1 s2 s3 g0 g1 g2 g3 c]
  rw [Option.bind_some]
  rw [own_letU]
  rw [own_letU]
  rw [own_letU]
  rw [own_letU]
  rw [own_letU]
  rw [own_letU]
  rw [if_pos (by decide : ((4 : Int32) = (4 : Int32)))]
  rw [b0_374]
  rw [own_letU]
  rw [own_letU]
  rw [own_letU]
  rw [own_letU]
  rw [own_letU]
  rw [own_letU]
  rw [own_letU]
  rw [own_letU]
  rw [if_neg (by decide : ¬ ((4 : Int32) = (2 : Int32)))]
  rw [if_neg (by decide : ¬ ((4 : Int32) = (3 : Int32)))]
  rw [own_bs (show rI (oH240 s0 s1 s2 s3 g0 g1 g2 g3 c) 6 0 (0 : Int32) = some (((0 : Int32) + (g0 * s1)) + g1) from rfl)]
  rw [if_pos (own_r0 s0 s1 s2 s3 g0 g1 g2 g3)]
  rw [own_bs (show rI (oH240 s0 s1 s2 s3 g0 g1 g2 g3 c) 6 0 (1 : Int32) = some ((((0 : Int32) + (s0 * s1)) + (g0 * s2)) + g2) from rfl)]
  rw [if_pos (own_r1 s0 s1 s2 s3 g0 g1 g2 g3)]
  rw [own_bs (show rI (oH240 s0 s1 s2 s3 g0 g1 g2 g3 c) 6 0 (2 : Int32) = some (((((0 : Int32) + (s0 * s1)) + (s0 * s2)) + (g0 * s3)) + g3) from rfl)]
  rw [if_pos (own_r3 s0 s1 s2 s3 g0 g1 g2 g3)]
  rw [own_bs (show rI (oH240 s0 s1 s2 s3 g0 g1 g2 g3 c) 6 0 (3 : Int32) = some ((((0 : Int32) + (s0 * ((((((0 : Int32) + s0) + s1) + s2) + s3) - ((0 : Int32) + s0)))) + (g1 * s2)) + g2) from rfl)]
  rw [if_pos (own_r4 s0 s1 s2 s3 g0 g1 g2 g3)]
  rw [own_bs (show rI (oH240 s0 s1 s2 s3 g0 g1 g2 g3 c) 6 0 (4 : Int32) = some (((((0 : Int32) + (s0 * ((((((0 : Int32) + s0) + s1) + s2) + s3) - ((0 : Int32) + s0)))) + (s1 * s2)) + (g1 * s3)) + g3) from rfl)]
  rw [if_pos (own_r5 s0 s1 s2 s3 g0 g1 g2 g3)]
  rw [own_bs (show rI (oH240 s0 s1 s2 s3 g0 g1 g2 g3 c) 6 0 (5 : Int32) = some (((((0 : Int32) + (s0 * ((((((0 : Int32) + s0) + s1) + s2) + s3) - ((0 : Int32) + s0)))) + (s1 * ((((((0 : Int32) + s0) + s1) + s2) + s3) - (((0 : Int32) + s0) + s1)))) + (g2 * s3)) + g3) from rfl)]
  rw [if_pos (own_r6 s0 s1 s2 s3 g0 g1 g2 g3)]
  rw [own_bs (show rI (oH240 s0 s1 s2 s3 g0 g1 g2 g3 c) 6 0 (6 : Int32) = some (-1 : Int32) from rfl)]
  rw [if_pos (by decide : ((-1 : Int32) = (-1 : Int32)))]
  exact ⟨_, rfl⟩
set_option maxRecDepth 20000 in
set_option maxHeartbeats 4000000 in
theorem own_f8_4_1 (s0 s1 s2 s3 g0 g1 g2 g3 : Int32) (c : Int64) : f8 (oH253 s0 s1 s2 s3 g0 g1 g2 g3 c) 1 5 (1 : Int32) 6 = some (oH259 s0 s1 s2 s3 g0 g1 g2 g3 c) := by
  rw [f8]
  rw [b8_6]
  rw [own_bs (show gR (oH253 s0 s1 s2 s3 g0 g1 g2 g3 c) 1 1 0 = some 2 from rfl)]
  rw [own_bs (show lA (oH253 s0 s1 s2 s3 g0 g1 g2 g3 c) 2 0 = some (4 : Int32) from rfl)]
  rw [if_pos (by decide : ((0 : Int32) < (4 : Int32)))]
  rw [own_bs (show gR (oH253 s0 s1 s2 s3 g0 g1 g2 g3 c) 1 1 2 = some 4 from rfl)]
  rw [own_bs (show rI (oH253 s0 s1 s2 s3 g0 g1 g2 g3 c) 4 0 (0 : Int32) = some (0 : Int32) from rfl)]
  rw [own_bs (show rI (oH253 s0 s1 s2 s3 g0 g1 g2 g3 c) 5 0 ((1 : Int32) + (0 : Int32)) = some g0 from rfl)]
  rw [own_letV (show ((0 : Int32) + (1 : Int32)) = (1 : Int32) from rfl)]
  rw [sg8_39]
  rw [own_bs (show gR (oH253 s0 s1 s2 s3 g0 g1 g2 g3 c) 1 1 0 = some 2 from rfl)]
  rw [own_bs (show lA (oH253 s0 s1 s2 s3 g0 g1 g2 g3 c) 2 0 = some (4 : Int32) from rfl)]
  rw [if_pos (by decide : ((1 : Int32) < (4 : Int32)))]
  rw [own_bs (show gR (oH253 s0 s1 s2 s3 g0 g1 g2 g3 c) 1 1 0 = some 2 from rfl)]
  rw [own_bs (show rI (oH253 s0 s1 s2 s3 g0 g1 g2 g3 c) 2 0 (1 : Int32) = some s1 from rfl)]
  rw [own_bs (show rI (oH253 s0 s1 s2 s3 g0 g1 g2 g3 c) 5 0 ((1 : Int32) + (1 : Int32)) = some g1 from rfl)]
  rw [own_bs (show wV (oH253 s0 s1 s2 s3 g0 g1 g2 g3 c) 6 0 (0 : Int32) (.int (((0 : Int32) + (g0 * s1)) + g1)) = some (oH254 s0 s1 s2 s3 g0 g1 g2 g3 c) from rfl)]
  rw [own_bs (show gR (oH254 s0 s1 s2 s3 g0 g1 g2 g3 c) 1 1 0 = some 2 from rfl)]
  rw [own_bs (show rI (oH254 s0 s1 s2 s3 g0 g1 g2 g3 c) 2 0 (0 : Int32) = some s0 from rfl)]
  rw [own_bs (show gR (oH254 s0 s1 s2 s3 g0 g1 g2 g3 c) 1 1 0 = some 2 from rfl)]
  rw [own_bs (show rI (oH254 s0 s1 s2 s3 g0 g1 g2 g3 c) 2 0 (1 : Int32) = some s1 from rfl)]
  rw [own_letU]
  try rw [show ((0 : Int32) + (1 : Int32)) = (1 : Int32) from rfl]
  try rw [show ((1 : Int32) + (1 : Int32)) = (2 : Int32) from rfl]
  rw [sg8_39]
  rw [own_bs (show gR (oH254 s0 s1 s2 s3 g0 g1 g2 g3 c) 1 1 0 = some 2 from rfl)]
  rw [own_bs (show lA (oH254 s0 s1 s2 s3 g0 g1 g2 g3 c) 2 0 = some (4 : Int32) from rfl)]
  rw [if_pos (by decide : ((2 : Int32) < (4 : Int32)))]
  rw [own_bs (show gR (oH254 s0 s1 s2 s3 g0 g1 g2 g3 c) 1 1 0 = some 2 from rfl)]
  rw [own_bs (show rI (oH254 s0 s1 s2 s3 g0 g1 g2 g3 c) 2 0 (2 : Int32) = some s2 from rfl)]
  rw [own_bs (show rI (oH254 s0 s1 s2 s3 g0 g1 g2 g3 c) 5 0 ((1 : Int32) + (2 : Int32)) = some g2 from rfl)]
  rw [own_bs (show wV (oH254 s0 s1 s2 s3 g0 g1 g2 g3 c) 6 0 (1 : Int32) (.int ((((0 : Int32) + (s0 * s1)) + (g0 * s2)) + g2)) = some (oH255 s0 s1 s2 s3 g0 g1 g2 g3 c) from rfl)]
  rw [own_bs (show gR (oH255 s0 s1 s2 s3 g0 g1 g2 g3 c) 1 1 0 = some 2 from rfl)]
  rw [own_bs (show rI (oH255 s0 s1 s2 s3 g0 g1 g2 g3 c) 2 0 (0 : Int32) = some s0 from rfl)]
  rw [own_bs (show gR (oH255 s0 s1 s2 s3 g0 g1 g2 g3 c) 1 1 0 = some 2 from rfl)]
  rw [own_bs (show rI (oH255 s0 s1 s2 s3 g0 g1 g2 g3 c) 2 0 (2 : Int32) = some s2 from rfl)]
  rw [own_letU]
  try rw [show ((1 : Int32) + (1 : Int32)) = (2 : Int32) from rfl]
  try rw [show ((2 : Int32) + (1 : Int32)) = (3 : Int32) from rfl]
  rw [sg8_39]
  rw [own_bs (show gR (oH255 s0 s1 s2 s3 g0 g1 g2 g3 c) 1 1 0 = some 2 from rfl)]
  rw [own_bs (show lA (oH255 s0 s1 s2 s3 g0 g1 g2 g3 c) 2 0 = some (4 : Int32) from rfl)]
  rw [if_pos (by decide : ((3 : Int32) < (4 : Int32)))]
  rw [own_bs (show gR (oH255 s0 s1 s2 s3 g0 g1 g2 g3 c) 1 1 0 = some 2 from rfl)]
  rw [own_bs (show rI (oH255 s0 s1 s2 s3 g0 g1 g2 g3 c) 2 0 (3 : Int32) = some s3 from rfl)]
  rw [own_bs (show rI (oH255 s0 s1 s2 s3 g0 g1 g2 g3 c) 5 0 ((1 : Int32) + (3 : Int32)) = some g3 from rfl)]
  rw [own_bs (show wV (oH255 s0 s1 s2 s3 g0 g1 g2 g3 c) 6 0 (2 : Int32) (.int (((((0 : Int32) + (s0 * s1)) + (s0 * s2)) + (g0 * s3)) + g3)) = some (oH256 s0 s1 s2 s3 g0 g1 g2 g3 c) from rfl)]
  rw [own_bs (show gR (oH256 s0 s1 s2 s3 g0 g1 g2 g3 c) 1 1 0 = some 2 from rfl)]
  rw [own_bs (show rI (oH256 s0 s1 s2 s3 g0 g1 g2 g3 c) 2 0 (0 : Int32) = some s0 from rfl)]
  rw [own_bs (show gR (oH256 s0 s1 s2 s3 g0 g1 g2 g3 c) 1 1 0 = some 2 from rfl)]
  rw [own_bs (show rI (oH256 s0 s1 s2 s3 g0 g1 g2 g3 c) 2 0 (3 : Int32) = some s3 from rfl)]
  rw [own_letU]
  try rw [show ((2 : Int32) + (1 : Int32)) = (3 : Int32) from rfl]
  try rw [show ((3 : Int32) + (1 : Int32)) = (4 : Int32) from rfl]
  rw [sg8_39]
  rw [own_bs (show gR (oH256 s0 s1 s2 s3 g0 g1 g2 g3 c) 1 1 0 = some 2 from rfl)]
  rw [own_bs (show lA (oH256 s0 s1 s2 s3 g0 g1 g2 g3 c) 2 0 = some (4 : Int32) from rfl)]
  rw [if_neg (by decide : ¬ ((4 : Int32) < (4 : Int32)))]
  rw [Option.bind_some]
  rw [own_letP1]
  rw [own_letP21]
  rw [own_letP221]
  rw [own_letP222]
  try rw [show ((0 : Int32) + (1 : Int32)) = (1 : Int32) from rfl]
  rw [b8_6]
  rw [own_bs (show gR (oH256 s0 s1 s2 s3 g0 g1 g2 g3 c) 1 1 0 = some 2 from rfl)]
  rw [own_bs (show lA (oH256 s0 s1 s2 s3 g0 g1 g2 g3 c) 2 0 = some (4 : Int32) from rfl)]
  rw [if_pos (by decide : ((1 : Int32) < (4 : Int32)))]
  rw [own_bs (show gR (oH256 s0 s1 s2 s3 g0 g1 g2 g3 c) 1 1 2 = some 4 from rfl)]
  rw [own_bs (show rI (oH256 s0 s1 s2 s3 g0 g1 g2 g3 c) 4 0 (1 : Int32) = some ((0 : Int32) + (s0 * ((((((0 : Int32) + s0) + s1) + s2) + s3) - ((0 : Int32) + s0)))) from rfl)]
  rw [own_bs (show rI (oH256 s0 s1 s2 s3 g0 g1 g2 g3 c) 5 0 ((1 : Int32) + (1 : Int32)) = some g1 from rfl)]
  rw [own_letV (show ((1 : Int32) + (1 : Int32)) = (2 : Int32) from rfl)]
  rw [sg8_39]
  rw [own_bs (show gR (oH256 s0 s1 s2 s3 g0 g1 g2 g3 c) 1 1 0 = some 2 from rfl)]
  rw [own_bs (show lA (oH256 s0 s1 s2 s3 g0 g1 g2 g3 c) 2 0 = some (4 : Int32) from rfl)]
  rw [if_pos (by decide : ((2 : Int32) < (4 : Int32)))]
  rw [own_bs (show gR (oH256 s0 s1 s2 s3 g0 g1 g2 g3 c) 1 1 0 = some 2 from rfl)]
  rw [own_bs (show rI (oH256 s0 s1 s2 s3 g0 g1 g2 g3 c) 2 0 (2 : Int32) = some s2 from rfl)]
  rw [own_bs (show rI (oH256 s0 s1 s2 s3 g0 g1 g2 g3 c) 5 0 ((1 : Int32) + (2 : Int32)) = some g2 from rfl)]
  rw [own_bs (show wV (oH256 s0 s1 s2 s3 g0 g1 g2 g3 c) 6 0 (3 : Int32) (.int ((((0 : Int32) + (s0 * ((((((0 : Int32) + s0) + s1) + s2) + s3) - ((0 : Int32) + s0)))) + (g1 * s2)) + g2)) = some (oH257 s0 s1 s2 s3 g0 g1 g2 g3 c) from rfl)]
  rw [own_bs (show gR (oH257 s0 s1 s2 s3 g0 g1 g2 g3 c) 1 1 0 = some 2 from rfl)]
  rw [own_bs (show rI (oH257 s0 s1 s2 s3 g0 g1 g2 g3 c) 2 0 (1 : Int32) = some s1 from rfl)]
  rw [own_bs (show gR (oH257 s0 s1 s2 s3 g0 g1 g2 g3 c) 1 1 0 = some 2 from rfl)]
  rw [own_bs (show rI (oH257 s0 s1 s2 s3 g0 g1 g2 g3 c) 2 0 (2 : Int32) = some s2 from rfl)]
  rw [own_letU]
  try rw [show ((3 : Int32) + (1 : Int32)) = (4 : Int32) from rfl]
  try rw [show ((2 : Int32) + (1 : Int32)) = (3 : Int32) from rfl]
  rw [sg8_39]
  rw [own_bs (show gR (oH257 s0 s1 s2 s3 g0 g1 g2 g3 c) 1 1 0 = some 2 from rfl)]
  rw [own_bs (show lA (oH257 s0 s1 s2 s3 g0 g1 g2 g3 c) 2 0 = some (4 : Int32) from rfl)]
  rw [if_pos (by decide : ((3 : Int32) < (4 : Int32)))]
  rw [own_bs (show gR (oH257 s0 s1 s2 s3 g0 g1 g2 g3 c) 1 1 0 = some 2 from rfl)]
  rw [own_bs (show rI (oH257 s0 s1 s2 s3 g0 g1 g2 g3 c) 2 0 (3 : Int32) = some s3 from rfl)]
  rw [own_bs (show rI (oH257 s0 s1 s2 s3 g0 g1 g2 g3 c) 5 0 ((1 : Int32) + (3 : Int32)) = some g3 from rfl)]
  rw [own_bs (show wV (oH257 s0 s1 s2 s3 g0 g1 g2 g3 c) 6 0 (4 : Int32) (.int (((((0 : Int32) + (s0 * ((((((0 : Int32) + s0) + s1) + s2) + s3) - ((0 : Int32) + s0)))) + (s1 * s2)) + (g1 * s3)) + g3)) = some (oH258 s0 s1 s2 s3 g0 g1 g2 g3 c) from rfl)]
  rw [own_bs (show gR (oH258 s0 s1 s2 s3 g0 g1 g2 g3 c) 1 1 0 = some 2 from rfl)]
  rw [own_bs (show rI (oH258 s0 s1 s2 s3 g0 g1 g2 g3 c) 2 0 (1 : Int32) = some s1 from rfl)]
  rw [own_bs (show gR (oH258 s0 s1 s2 s3 g0 g1 g2 g3 c) 1 1 0 = some 2 from rfl)]
  rw [own_bs (show rI (oH258 s0 s1 s2 s3 g0 g1 g2 g3 c) 2 0 (3 : Int32) = some s3 from rfl)]
  rw [own_letU]
  try rw [show ((4 : Int32) + (1 : Int32)) = (5 : Int32) from rfl]
  try rw [show ((3 : Int32) + (1 : Int32)) = (4 : Int32) from rfl]
  rw [sg8_39]
  rw [own_bs (show gR (oH258 s0 s1 s2 s3 g0 g1 g2 g3 c) 1 1 0 = some 2 from rfl)]
  rw [own_bs (show lA (oH258 s0 s1 s2 s3 g0 g1 g2 g3 c) 2 0 = some (4 : Int32) from rfl)]
  rw [if_neg (by decide : ¬ ((4 : Int32) < (4 : Int32)))]
  rw [Option.bind_some]
  rw [own_letP1]
  rw [own_letP21]
  rw [own_letP221]
  rw [own_letP222]
  try rw [show ((1 : Int32) + (1 : Int32)) = (2 : Int32) from rfl]
  rw [b8_6]
  rw [own_bs (show gR (oH258 s0 s1 s2 s3 g0 g1 g2 g3 c) 1 1 0 = some 2 from rfl)]
  rw [own_bs (show lA (oH258 s0 s1 s2 s3 g0 g1 g2 g3 c) 2 0 = some (4 : Int32) from rfl)]
  rw [if_pos (by decide : ((2 : Int32) < (4 : Int32)))]
  rw [own_bs (show gR (oH258 s0 s1 s2 s3 g0 g1 g2 g3 c) 1 1 2 = some 4 from rfl)]
  rw [own_bs (show rI (oH258 s0 s1 s2 s3 g0 g1 g2 g3 c) 4 0 (2 : Int32) = some (((0 : Int32) + (s0 * ((((((0 : Int32) + s0) + s1) + s2) + s3) - ((0 : Int32) + s0)))) + (s1 * ((((((0 : Int32) + s0) + s1) + s2) + s3) - (((0 : Int32) + s0) + s1)))) from rfl)]
  rw [own_bs (show rI (oH258 s0 s1 s2 s3 g0 g1 g2 g3 c) 5 0 ((1 : Int32) + (2 : Int32)) = some g2 from rfl)]
  rw [own_letV (show ((2 : Int32) + (1 : Int32)) = (3 : Int32) from rfl)]
  rw [sg8_39]
  rw [own_bs (show gR (oH258 s0 s1 s2 s3 g0 g1 g2 g3 c) 1 1 0 = some 2 from rfl)]
  rw [own_bs (show lA (oH258 s0 s1 s2 s3 g0 g1 g2 g3 c) 2 0 = some (4 : Int32) from rfl)]
  rw [if_pos (by decide : ((3 : Int32) < (4 : Int32)))]
  rw [own_bs (show gR (oH258 s0 s1 s2 s3 g0 g1 g2 g3 c) 1 1 0 = some 2 from rfl)]
  rw [own_bs (show rI (oH258 s0 s1 s2 s3 g0 g1 g2 g3 c) 2 0 (3 : Int32) = some s3 from rfl)]
  rw [own_bs (show rI (oH258 s0 s1 s2 s3 g0 g1 g2 g3 c) 5 0 ((1 : Int32) + (3 : Int32)) = some g3 from rfl)]
  rw [own_bs (show wV (oH258 s0 s1 s2 s3 g0 g1 g2 g3 c) 6 0 (5 : Int32) (.int (((((0 : Int32) + (s0 * ((((((0 : Int32) + s0) + s1) + s2) + s3) - ((0 : Int32) + s0)))) + (s1 * ((((((0 : Int32) + s0) + s1) + s2) + s3) - (((0 : Int32) + s0) + s1)))) + (g2 * s3)) + g3)) = some (oH259 s0 s1 s2 s3 g0 g1 g2 g3 c) from rfl)]
  rw [own_bs (show gR (oH259 s0 s1 s2 s3 g0 g1 g2 g3 c) 1 1 0 = some 2 from rfl)]
  rw [own_bs (show rI (oH259 s0 s1 s2 s3 g0 g1 g2 g3 c) 2 0 (2 : Int32) = some s2 from rfl)]
  rw [own_bs (show gR (oH259 s0 s1 s2 s3 g0 g1 g2 g3 c) 1 1 0 = some 2 from rfl)]
  rw [own_bs (show rI (oH259 s0 s1 s2 s3 g0 g1 g2 g3 c) 2 0 (3 : Int32) = some s3 from rfl)]
  rw [own_letU]
  try rw [show ((5 : Int32) + (1 : Int32)) = (6 : Int32) from rfl]
  try rw [show ((3 : Int32) + (1 : Int32)) = (4 : Int32) from rfl]
  rw [sg8_39]
  rw [own_bs (show gR (oH259 s0 s1 s2 s3 g0 g1 g2 g3 c) 1 1 0 = some 2 from rfl)]
  rw [own_bs (show lA (oH259 s0 s1 s2 s3 g0 g1 g2 g3 c) 2 0 = some (4 : Int32) from rfl)]
  rw [if_neg (by decide : ¬ ((4 : Int32) < (4 : Int32)))]
  rw [Option.bind_some]
  rw [own_letP1]
  rw [own_letP21]
  rw [own_letP221]
  rw [own_letP222]
  try rw [show ((2 : Int32) + (1 : Int32)) = (3 : Int32) from rfl]
  rw [b8_6]
  rw [own_bs (show gR (oH259 s0 s1 s2 s3 g0 g1 g2 g3 c) 1 1 0 = some 2 from rfl)]
  rw [own_bs (show lA (oH259 s0 s1 s2 s3 g0 g1 g2 g3 c) 2 0 = some (4 : Int32) from rfl)]
  rw [if_pos (by decide : ((3 : Int32) < (4 : Int32)))]
  rw [own_bs (show gR (oH259 s0 s1 s2 s3 g0 g1 g2 g3 c) 1 1 2 = some 4 from rfl)]
  rw [own_bs (show rI (oH259 s0 s1 s2 s3 g0 g1 g2 g3 c) 4 0 (3 : Int32) = some ((((0 : Int32) + (s0 * ((((((0 : Int32) + s0) + s1) + s2) + s3) - ((0 : Int32) + s0)))) + (s1 * ((((((0 : Int32) + s0) + s1) + s2) + s3) - (((0 : Int32) + s0) + s1)))) + (s2 * ((((((0 : Int32) + s0) + s1) + s2) + s3) - ((((0 : Int32) + s0) + s1) + s2)))) from rfl)]
  rw [own_bs (show rI (oH259 s0 s1 s2 s3 g0 g1 g2 g3 c) 5 0 ((1 : Int32) + (3 : Int32)) = some g3 from rfl)]
  rw [own_letV (show ((3 : Int32) + (1 : Int32)) = (4 : Int32) from rfl)]
  rw [sg8_39]
  rw [own_bs (show gR (oH259 s0 s1 s2 s3 g0 g1 g2 g3 c) 1 1 0 = some 2 from rfl)]
  rw [own_bs (show lA (oH259 s0 s1 s2 s3 g0 g1 g2 g3 c) 2 0 = some (4 : Int32) from rfl)]
  rw [if_neg (by decide : ¬ ((4 : Int32) < (4 : Int32)))]
  rw [Option.bind_some]
  rw [own_letP1]
  rw [own_letP21]
  rw [own_letP221]
  rw [own_letP222]
  try rw [show ((3 : Int32) + (1 : Int32)) = (4 : Int32) from rfl]
  rw [b8_6]
  rw [own_bs (show gR (oH259 s0 s1 s2 s3 g0 g1 g2 g3 c) 1 1 0 = some 2 from rfl)]
  rw [own_bs (show lA (oH259 s0 s1 s2 s3 g0 g1 g2 g3 c) 2 0 = some (4 : Int32) from rfl)]
  rw [if_neg (by decide : ¬ ((4 : Int32) < (4 : Int32)))]
set_option maxRecDepth 20000 in
set_option maxHeartbeats 4000000 in
theorem own_c_4_1 (s0 s1 s2 s3 g0 g1 g2 g3 : Int32) (h0 : 0 ≤ s0.toInt ∧ s0.toInt ≤ 512) (h1 : 0 ≤ s1.toInt ∧ s1.toInt ≤ 512) (h2 : 0 ≤ s2.toInt ∧ s2.toInt ≤ 512) (h3 : 0 ≤ s3.toInt ∧ s3.toInt ≤ 512) : ∃ D', b0_128 (oH184 s0 s1 s2) s0 s1 s2 s3 (4 : Int32) (1 : Int32) g0 g1 g2 g3 0 = some ((1 : Int32), D') := by
  rw [b0_128]
  rw [if_neg (by decide : ¬ ((4 : Int32) < (4 : Int32)))]
  rw [own_bs (show wV (oH184 s0 s1 s2) 0 0 (3 : Int32) (.int s3) = some (oH185 s0 s1 s2 s3) from rfl)]
  rw [b0_140]
  rw [own_letV (show List.length (oH185 s0 s1 s2 s3) = 1 from rfl)]
  rw [own_letV (show (oH185 s0 s1 s2 s3) ++ ([(1, [.null, .null, .null, .int (0 : Int32)])] : Hp) = (oH186 s0 s1 s2 s3) from rfl)]
  obtain ⟨c, h1⟩ := own_f1_4 s0 s1 s2 s3 g0 g1 g2 g3 h0 h1 h2 h3
  rw [h1]
  rw [Option.bind_some]
  rw [own_letV (show List.length (oH208 s0 s1 s2 s3 c) = 5 from rfl)]
  rw [own_bs (show nA (oH208 s0 s1 s2 s3 c) 0 (8 : Int32) 8 (.int (0 : Int32)) = some (oH209 s0 s1 s2 s3 c) from rfl)]
  rw [own_bs (show wV (oH209 s0 s1 s2 s3 c) 5 0 (0 : Int32) (.int (100 : Int32)) = some (oH210 s0 s1 s2 s3 c) from rfl)]
  rw [own_bs (show wV (oH210 s0 s1 s2 s3 c) 5 0 (1 : Int32) (.int (101 : Int32)) = some (oH211 s0 s1 s2 s3 c) from rfl)]
  rw [own_bs (show wV (oH211 s0 s1 s2 s3 c) 5 0 (2 : Int32) (.int (102 : Int32)) = some (oH212 s0 s1 s2 s3 c) from rfl)]
  rw [own_bs (show wV (oH212 s0 s1 s2 s3 c) 5 0 (3 : Int32) (.int (103 : Int32)) = some (oH213 s0 s1 s2 s3 c) from rfl)]
  rw [own_bs (show wV (oH213 s0 s1 s2 s3 c) 5 0 (4 : Int32) (.int (104 : Int32)) = some (oH214 s0 s1 s2 s3 c) from rfl)]
  rw [own_bs (show wV (oH214 s0 s1 s2 s3 c) 5 0 (5 : Int32) (.int (105 : Int32)) = some (oH215 s0 s1 s2 s3 c) from rfl)]
  rw [own_bs (show wV (oH215 s0 s1 s2 s3 c) 5 0 (6 : Int32) (.int (106 : Int32)) = some (oH216 s0 s1 s2 s3 c) from rfl)]
  rw [own_bs (show wV (oH216 s0 s1 s2 s3 c) 5 0 (7 : Int32) (.int (107 : Int32)) = some (oH217 s0 s1 s2 s3 c) from rfl)]
  rw [own_bs (show wV (oH217 s0 s1 s2 s3 c) 5 0 (1 : Int32) (.int g0) = some (oH241 s0 s1 s2 s3 g0 c) from rfl)]
  rw [own_bs (show wV (oH241 s0 s1 s2 s3 g0 c) 5 0 ((1 : Int32) + (1 : Int32)) (.int g1) = some (oH242 s0 s1 s2 s3 g0 g1 c) from rfl)]
  rw [if_neg (by decide : ¬ ((4 : Int32) < (3 : Int32)))]
  rw [own_bs (show wV (oH242 s0 s1 s2 s3 g0 g1 c) 5 0 ((1 : Int32) + (2 : Int32)) (.int g2) = some (oH243 s0 s1 s2 s3 g0 g1 g2 c) from rfl)]
  rw [b0_238]
  rw [if_neg (by decide : ¬ ((4 : Int32) < (4 : Int32)))]
  rw [own_bs (show wV (oH243 s0 s1 s2 s3 g0 g1 g2 c) 5 0 ((1 : Int32) + (3 : Int32)) (.int g3) = some (oH245 s0 s1 s2 s3 g0 g1 g2 g3 c) from rfl)]
  rw [b0_253]
  rw [own_letV (show List.length (oH245 s0 s1 s2 s3 g0 g1 g2 g3 c) = 6 from rfl)]
  rw [own_bs (show nA (oH245 s0 s1 s2 s3 g0 g1 g2 g3 c) 0 (7 : Int32) 7 (.int (0 : Int32)) = some (oH246 s0 s1 s2 s3 g0 g1 g2 g3 c) from rfl)]
  rw [own_bs (show wV (oH246 s0 s1 s2 s3 g0 g1 g2 g3 c) 6 0 (0 : Int32) (.int (-1 : Int32)) = some (oH247 s0 s1 s2 s3 g0 g1 g2 g3 c) from rfl)]
  rw [own_bs (show wV (oH247 s0 s1 s2 s3 g0 g1 g2 g3 c) 6 0 (1 : Int32) (.int (-1 : Int32)) = some (oH248 s0 s1 s2 s3 g0 g1 g2 g3 c) from rfl)]
  rw [own_bs (show wV (oH248 s0 s1 s2 s3 g0 g1 g2 g3 c) 6 0 (2 : Int32) (.int (-1 : Int32)) = some (oH249 s0 s1 s2 s3 g0 g1 g2 g3 c) from rfl)]
  rw [own_bs (show wV (oH249 s0 s1 s2 s3 g0 g1 g2 g3 c) 6 0 (3 : Int32) (.int (-1 : Int32)) = some (oH250 s0 s1 s2 s3 g0 g1 g2 g3 c) from rfl)]
  rw [own_bs (show wV (oH250 s0 s1 s2 s3 g0 g1 g2 g3 c) 6 0 (4 : Int32) (.int (-1 : Int32)) = some (oH251 s0 s1 s2 s3 g0 g1 g2 g3 c) from rfl)]
  rw [own_bs (show wV (oH251 s0 s1 s2 s3 g0 g1 g2 g3 c) 6 0 (5 : Int32) (.int (-1 : Int32)) = some (oH252 s0 s1 s2 s3 g0 g1 g2 g3 c) from rfl)]
  rw [own_bs (show wV (oH252 s0 s1 s2 s3 g0 g1 g2 g3 c) 6 0 (6 : Int32) (.int (-1 : Int32)) = some (oH253 s0 s1 s2 s3 g0 g1 g2 g3 c) from rfl)]
  rw [own_bs (show ck (oH253 s0 s1 s2 s3 g0 g1 g2 g3 c) 1 1 = some 1 from rfl)]
  rw [own_f8_4_1 s0 s1 s2 s3 g0 g1 g2 g3 c]
  rw [Option.bind_some]
  rw [own_letU]
  rw [own_letU]
  rw [own_letU]
  rw [own_letU]
  rw [own_letU]
  rw [own_letU]
  rw [if_pos (by decide : ((4 : Int32) = (4 : Int32)))]
  rw [b0_374]
  rw [own_letU]
  rw [own_letU]
  rw [own_letU]
  rw [own_letU]
  rw [own_letU]
  rw [own_letU]
  rw [own_letU]
  rw [own_letU]
  rw [if_neg (by decide : ¬ ((4 : Int32) = (2 : Int32)))]
  rw [if_neg (by decide : ¬ ((4 : Int32) = (3 : Int32)))]
  rw [own_bs (show rI (oH259 s0 s1 s2 s3 g0 g1 g2 g3 c) 6 0 (0 : Int32) = some (((0 : Int32) + (g0 * s1)) + g1) from rfl)]
  rw [if_pos (own_r0 s0 s1 s2 s3 g0 g1 g2 g3)]
  rw [own_bs (show rI (oH259 s0 s1 s2 s3 g0 g1 g2 g3 c) 6 0 (1 : Int32) = some ((((0 : Int32) + (s0 * s1)) + (g0 * s2)) + g2) from rfl)]
  rw [if_pos (own_r1 s0 s1 s2 s3 g0 g1 g2 g3)]
  rw [own_bs (show rI (oH259 s0 s1 s2 s3 g0 g1 g2 g3 c) 6 0 (2 : Int32) = some (((((0 : Int32) + (s0 * s1)) + (s0 * s2)) + (g0 * s3)) + g3) from rfl)]
  rw [if_pos (own_r3 s0 s1 s2 s3 g0 g1 g2 g3)]
  rw [own_bs (show rI (oH259 s0 s1 s2 s3 g0 g1 g2 g3 c) 6 0 (3 : Int32) = some ((((0 : Int32) + (s0 * ((((((0 : Int32) + s0) + s1) + s2) + s3) - ((0 : Int32) + s0)))) + (g1 * s2)) + g2) from rfl)]
  rw [if_pos (own_r4 s0 s1 s2 s3 g0 g1 g2 g3)]
  rw [own_bs (show rI (oH259 s0 s1 s2 s3 g0 g1 g2 g3 c) 6 0 (4 : Int32) = some (((((0 : Int32) + (s0 * ((((((0 : Int32) + s0) + s1) + s2) + s3) - ((0 : Int32) + s0)))) + (s1 * s2)) + (g1 * s3)) + g3) from rfl)]
  rw [if_pos (own_r5 s0 s1 s2 s3 g0 g1 g2 g3)]
  rw [own_bs (show rI (oH259 s0 s1 s2 s3 g0 g1 g2 g3 c) 6 0 (5 : Int32) = some (((((0 : Int32) + (s0 * ((((((0 : Int32) + s0) + s1) + s2) + s3) - ((0 : Int32) + s0)))) + (s1 * ((((((0 : Int32) + s0) + s1) + s2) + s3) - (((0 : Int32) + s0) + s1)))) + (g2 * s3)) + g3) from rfl)]
  rw [if_pos (own_r6 s0 s1 s2 s3 g0 g1 g2 g3)]
  rw [own_bs (show rI (oH259 s0 s1 s2 s3 g0 g1 g2 g3 c) 6 0 (6 : Int32) = some (-1 : Int32) from rfl)]
  rw [if_pos (by decide : ((-1 : Int32) = (-1 : Int32)))]
  exact ⟨_, rfl⟩
set_option maxRecDepth 20000 in
set_option maxHeartbeats 4000000 in
theorem own_f8_4_2 (s0 s1 s2 s3 g0 g1 g2 g3 : Int32) (c : Int64) : f8 (oH272 s0 s1 s2 s3 g0 g1 g2 g3 c) 1 5 (2 : Int32) 6 = some (oH278 s0 s1 s2 s3 g0 g1 g2 g3 c) := by
  rw [f8]
  rw [b8_6]
  rw [own_bs (show gR (oH272 s0 s1 s2 s3 g0 g1 g2 g3 c) 1 1 0 = some 2 from rfl)]
  rw [own_bs (show lA (oH272 s0 s1 s2 s3 g0 g1 g2 g3 c) 2 0 = some (4 : Int32) from rfl)]
  rw [if_pos (by decide : ((0 : Int32) < (4 : Int32)))]
  rw [own_bs (show gR (oH272 s0 s1 s2 s3 g0 g1 g2 g3 c) 1 1 2 = some 4 from rfl)]
  rw [own_bs (show rI (oH272 s0 s1 s2 s3 g0 g1 g2 g3 c) 4 0 (0 : Int32) = some (0 : Int32) from rfl)]
  rw [own_bs (show rI (oH272 s0 s1 s2 s3 g0 g1 g2 g3 c) 5 0 ((2 : Int32) + (0 : Int32)) = some g0 from rfl)]
  rw [own_letV (show ((0 : Int32) + (1 : Int32)) = (1 : Int32) from rfl)]
  rw [sg8_39]
  rw [own_bs (show gR (oH272 s0 s1 s2 s3 g0 g1 g2 g3 c) 1 1 0 = some 2 from rfl)]
  rw [own_bs (show lA (oH272 s0 s1 s2 s3 g0 g1 g2 g3 c) 2 0 = some (4 : Int32) from rfl)]
  rw [if_pos (by decide : ((1 : Int32) < (4 : Int32)))]
  rw [own_bs (show gR (oH272 s0 s1 s2 s3 g0 g1 g2 g3 c) 1 1 0 = some 2 from rfl)]
  rw [own_bs (show rI (oH272 s0 s1 s2 s3 g0 g1 g2 g3 c) 2 0 (1 : Int32) = some s1 from rfl)]
  rw [own_bs (show rI (oH272 s0 s1 s2 s3 g0 g1 g2 g3 c) 5 0 ((2 : Int32) + (1 : Int32)) = some g1 from rfl)]
  rw [own_bs (show wV (oH272 s0 s1 s2 s3 g0 g1 g2 g3 c) 6 0 (0 : Int32) (.int (((0 : Int32) + (g0 * s1)) + g1)) = some (oH273 s0 s1 s2 s3 g0 g1 g2 g3 c) from rfl)]
  rw [own_bs (show gR (oH273 s0 s1 s2 s3 g0 g1 g2 g3 c) 1 1 0 = some 2 from rfl)]
  rw [own_bs (show rI (oH273 s0 s1 s2 s3 g0 g1 g2 g3 c) 2 0 (0 : Int32) = some s0 from rfl)]
  rw [own_bs (show gR (oH273 s0 s1 s2 s3 g0 g1 g2 g3 c) 1 1 0 = some 2 from rfl)]
  rw [own_bs (show rI (oH273 s0 s1 s2 s3 g0 g1 g2 g3 c) 2 0 (1 : Int32) = some s1 from rfl)]
  rw [own_letU]
  try rw [show ((0 : Int32) + (1 : Int32)) = (1 : Int32) from rfl]
  try rw [show ((1 : Int32) + (1 : Int32)) = (2 : Int32) from rfl]
  rw [sg8_39]
  rw [own_bs (show gR (oH273 s0 s1 s2 s3 g0 g1 g2 g3 c) 1 1 0 = some 2 from rfl)]
  rw [own_bs (show lA (oH273 s0 s1 s2 s3 g0 g1 g2 g3 c) 2 0 = some (4 : Int32) from rfl)]
  rw [if_pos (by decide : ((2 : Int32) < (4 : Int32)))]
  rw [own_bs (show gR (oH273 s0 s1 s2 s3 g0 g1 g2 g3 c) 1 1 0 = some 2 from rfl)]
  rw [own_bs (show rI (oH273 s0 s1 s2 s3 g0 g1 g2 g3 c) 2 0 (2 : Int32) = some s2 from rfl)]
  rw [own_bs (show rI (oH273 s0 s1 s2 s3 g0 g1 g2 g3 c) 5 0 ((2 : Int32) + (2 : Int32)) = some g2 from rfl)]
  rw [own_bs (show wV (oH273 s0 s1 s2 s3 g0 g1 g2 g3 c) 6 0 (1 : Int32) (.int ((((0 : Int32) + (s0 * s1)) + (g0 * s2)) + g2)) = some (oH274 s0 s1 s2 s3 g0 g1 g2 g3 c) from rfl)]
  rw [own_bs (show gR (oH274 s0 s1 s2 s3 g0 g1 g2 g3 c) 1 1 0 = some 2 from rfl)]
  rw [own_bs (show rI (oH274 s0 s1 s2 s3 g0 g1 g2 g3 c) 2 0 (0 : Int32) = some s0 from rfl)]
  rw [own_bs (show gR (oH274 s0 s1 s2 s3 g0 g1 g2 g3 c) 1 1 0 = some 2 from rfl)]
  rw [own_bs (show rI (oH274 s0 s1 s2 s3 g0 g1 g2 g3 c) 2 0 (2 : Int32) = some s2 from rfl)]
  rw [own_letU]
  try rw [show ((1 : Int32) + (1 : Int32)) = (2 : Int32) from rfl]
  try rw [show ((2 : Int32) + (1 : Int32)) = (3 : Int32) from rfl]
  rw [sg8_39]
  rw [own_bs (show gR (oH274 s0 s1 s2 s3 g0 g1 g2 g3 c) 1 1 0 = some 2 from rfl)]
  rw [own_bs (show lA (oH274 s0 s1 s2 s3 g0 g1 g2 g3 c) 2 0 = some (4 : Int32) from rfl)]
  rw [if_pos (by decide : ((3 : Int32) < (4 : Int32)))]
  rw [own_bs (show gR (oH274 s0 s1 s2 s3 g0 g1 g2 g3 c) 1 1 0 = some 2 from rfl)]
  rw [own_bs (show rI (oH274 s0 s1 s2 s3 g0 g1 g2 g3 c) 2 0 (3 : Int32) = some s3 from rfl)]
  rw [own_bs (show rI (oH274 s0 s1 s2 s3 g0 g1 g2 g3 c) 5 0 ((2 : Int32) + (3 : Int32)) = some g3 from rfl)]
  rw [own_bs (show wV (oH274 s0 s1 s2 s3 g0 g1 g2 g3 c) 6 0 (2 : Int32) (.int (((((0 : Int32) + (s0 * s1)) + (s0 * s2)) + (g0 * s3)) + g3)) = some (oH275 s0 s1 s2 s3 g0 g1 g2 g3 c) from rfl)]
  rw [own_bs (show gR (oH275 s0 s1 s2 s3 g0 g1 g2 g3 c) 1 1 0 = some 2 from rfl)]
  rw [own_bs (show rI (oH275 s0 s1 s2 s3 g0 g1 g2 g3 c) 2 0 (0 : Int32) = some s0 from rfl)]
  rw [own_bs (show gR (oH275 s0 s1 s2 s3 g0 g1 g2 g3 c) 1 1 0 = some 2 from rfl)]
  rw [own_bs (show rI (oH275 s0 s1 s2 s3 g0 g1 g2 g3 c) 2 0 (3 : Int32) = some s3 from rfl)]
  rw [own_letU]
  try rw [show ((2 : Int32) + (1 : Int32)) = (3 : Int32) from rfl]
  try rw [show ((3 : Int32) + (1 : Int32)) = (4 : Int32) from rfl]
  rw [sg8_39]
  rw [own_bs (show gR (oH275 s0 s1 s2 s3 g0 g1 g2 g3 c) 1 1 0 = some 2 from rfl)]
  rw [own_bs (show lA (oH275 s0 s1 s2 s3 g0 g1 g2 g3 c) 2 0 = some (4 : Int32) from rfl)]
  rw [if_neg (by decide : ¬ ((4 : Int32) < (4 : Int32)))]
  rw [Option.bind_some]
  rw [own_letP1]
  rw [own_letP21]
  rw [own_letP221]
  rw [own_letP222]
  try rw [show ((0 : Int32) + (1 : Int32)) = (1 : Int32) from rfl]
  rw [b8_6]
  rw [own_bs (show gR (oH275 s0 s1 s2 s3 g0 g1 g2 g3 c) 1 1 0 = some 2 from rfl)]
  rw [own_bs (show lA (oH275 s0 s1 s2 s3 g0 g1 g2 g3 c) 2 0 = some (4 : Int32) from rfl)]
  rw [if_pos (by decide : ((1 : Int32) < (4 : Int32)))]
  rw [own_bs (show gR (oH275 s0 s1 s2 s3 g0 g1 g2 g3 c) 1 1 2 = some 4 from rfl)]
  rw [own_bs (show rI (oH275 s0 s1 s2 s3 g0 g1 g2 g3 c) 4 0 (1 : Int32) = some ((0 : Int32) + (s0 * ((((((0 : Int32) + s0) + s1) + s2) + s3) - ((0 : Int32) + s0)))) from rfl)]
  rw [own_bs (show rI (oH275 s0 s1 s2 s3 g0 g1 g2 g3 c) 5 0 ((2 : Int32) + (1 : Int32)) = some g1 from rfl)]
  rw [own_letV (show ((1 : Int32) + (1 : Int32)) = (2 : Int32) from rfl)]
  rw [sg8_39]
  rw [own_bs (show gR (oH275 s0 s1 s2 s3 g0 g1 g2 g3 c) 1 1 0 = some 2 from rfl)]
  rw [own_bs (show lA (oH275 s0 s1 s2 s3 g0 g1 g2 g3 c) 2 0 = some (4 : Int32) from rfl)]
  rw [if_pos (by decide : ((2 : Int32) < (4 : Int32)))]
  rw [own_bs (show gR (oH275 s0 s1 s2 s3 g0 g1 g2 g3 c) 1 1 0 = some 2 from rfl)]
  rw [own_bs (show rI (oH275 s0 s1 s2 s3 g0 g1 g2 g3 c) 2 0 (2 : Int32) = some s2 from rfl)]
  rw [own_bs (show rI (oH275 s0 s1 s2 s3 g0 g1 g2 g3 c) 5 0 ((2 : Int32) + (2 : Int32)) = some g2 from rfl)]
  rw [own_bs (show wV (oH275 s0 s1 s2 s3 g0 g1 g2 g3 c) 6 0 (3 : Int32) (.int ((((0 : Int32) + (s0 * ((((((0 : Int32) + s0) + s1) + s2) + s3) - ((0 : Int32) + s0)))) + (g1 * s2)) + g2)) = some (oH276 s0 s1 s2 s3 g0 g1 g2 g3 c) from rfl)]
  rw [own_bs (show gR (oH276 s0 s1 s2 s3 g0 g1 g2 g3 c) 1 1 0 = some 2 from rfl)]
  rw [own_bs (show rI (oH276 s0 s1 s2 s3 g0 g1 g2 g3 c) 2 0 (1 : Int32) = some s1 from rfl)]
  rw [own_bs (show gR (oH276 s0 s1 s2 s3 g0 g1 g2 g3 c) 1 1 0 = some 2 from rfl)]
  rw [own_bs (show rI (oH276 s0 s1 s2 s3 g0 g1 g2 g3 c) 2 0 (2 : Int32) = some s2 from rfl)]
  rw [own_letU]
  try rw [show ((3 : Int32) + (1 : Int32)) = (4 : Int32) from rfl]
  try rw [show ((2 : Int32) + (1 : Int32)) = (3 : Int32) from rfl]
  rw [sg8_39]
  rw [own_bs (show gR (oH276 s0 s1 s2 s3 g0 g1 g2 g3 c) 1 1 0 = some 2 from rfl)]
  rw [own_bs (show lA (oH276 s0 s1 s2 s3 g0 g1 g2 g3 c) 2 0 = some (4 : Int32) from rfl)]
  rw [if_pos (by decide : ((3 : Int32) < (4 : Int32)))]
  rw [own_bs (show gR (oH276 s0 s1 s2 s3 g0 g1 g2 g3 c) 1 1 0 = some 2 from rfl)]
  rw [own_bs (show rI (oH276 s0 s1 s2 s3 g0 g1 g2 g3 c) 2 0 (3 : Int32) = some s3 from rfl)]
  rw [own_bs (show rI (oH276 s0 s1 s2 s3 g0 g1 g2 g3 c) 5 0 ((2 : Int32) + (3 : Int32)) = some g3 from rfl)]
  rw [own_bs (show wV (oH276 s0 s1 s2 s3 g0 g1 g2 g3 c) 6 0 (4 : Int32) (.int (((((0 : Int32) + (s0 * ((((((0 : Int32) + s0) + s1) + s2) + s3) - ((0 : Int32) + s0)))) + (s1 * s2)) + (g1 * s3)) + g3)) = some (oH277 s0 s1 s2 s3 g0 g1 g2 g3 c) from rfl)]
  rw [own_bs (show gR (oH277 s0 s1 s2 s3 g0 g1 g2 g3 c) 1 1 0 = some 2 from rfl)]
  rw [own_bs (show rI (oH277 s0 s1 s2 s3 g0 g1 g2 g3 c) 2 0 (1 : Int32) = some s1 from rfl)]
  rw [own_bs (show gR (oH277 s0 s1 s2 s3 g0 g1 g2 g3 c) 1 1 0 = some 2 from rfl)]
  rw [own_bs (show rI (oH277 s0 s1 s2 s3 g0 g1 g2 g3 c) 2 0 (3 : Int32) = some s3 from rfl)]
  rw [own_letU]
  try rw [show ((4 : Int32) + (1 : Int32)) = (5 : Int32) from rfl]
  try rw [show ((3 : Int32) + (1 : Int32)) = (4 : Int32) from rfl]
  rw [sg8_39]
  rw [own_bs (show gR (oH277 s0 s1 s2 s3 g0 g1 g2 g3 c) 1 1 0 = some 2 from rfl)]
  rw [own_bs (show lA (oH277 s0 s1 s2 s3 g0 g1 g2 g3 c) 2 0 = some (4 : Int32) from rfl)]
  rw [if_neg (by decide : ¬ ((4 : Int32) < (4 : Int32)))]
  rw [Option.bind_some]
  rw [own_letP1]
  rw [own_letP21]
  rw [own_letP221]
  rw [own_letP222]
  try rw [show ((1 : Int32) + (1 : Int32)) = (2 : Int32) from rfl]
  rw [b8_6]
  rw [own_bs (show gR (oH277 s0 s1 s2 s3 g0 g1 g2 g3 c) 1 1 0 = some 2 from rfl)]
  rw [own_bs (show lA (oH277 s0 s1 s2 s3 g0 g1 g2 g3 c) 2 0 = some (4 : Int32) from rfl)]
  rw [if_pos (by decide : ((2 : Int32) < (4 : Int32)))]
  rw [own_bs (show gR (oH277 s0 s1 s2 s3 g0 g1 g2 g3 c) 1 1 2 = some 4 from rfl)]
  rw [own_bs (show rI (oH277 s0 s1 s2 s3 g0 g1 g2 g3 c) 4 0 (2 : Int32) = some (((0 : Int32) + (s0 * ((((((0 : Int32) + s0) + s1) + s2) + s3) - ((0 : Int32) + s0)))) + (s1 * ((((((0 : Int32) + s0) + s1) + s2) + s3) - (((0 : Int32) + s0) + s1)))) from rfl)]
  rw [own_bs (show rI (oH277 s0 s1 s2 s3 g0 g1 g2 g3 c) 5 0 ((2 : Int32) + (2 : Int32)) = some g2 from rfl)]
  rw [own_letV (show ((2 : Int32) + (1 : Int32)) = (3 : Int32) from rfl)]
  rw [sg8_39]
  rw [own_bs (show gR (oH277 s0 s1 s2 s3 g0 g1 g2 g3 c) 1 1 0 = some 2 from rfl)]
  rw [own_bs (show lA (oH277 s0 s1 s2 s3 g0 g1 g2 g3 c) 2 0 = some (4 : Int32) from rfl)]
  rw [if_pos (by decide : ((3 : Int32) < (4 : Int32)))]
  rw [own_bs (show gR (oH277 s0 s1 s2 s3 g0 g1 g2 g3 c) 1 1 0 = some 2 from rfl)]
  rw [own_bs (show rI (oH277 s0 s1 s2 s3 g0 g1 g2 g3 c) 2 0 (3 : Int32) = some s3 from rfl)]
  rw [own_bs (show rI (oH277 s0 s1 s2 s3 g0 g1 g2 g3 c) 5 0 ((2 : Int32) + (3 : Int32)) = some g3 from rfl)]
  rw [own_bs (show wV (oH277 s0 s1 s2 s3 g0 g1 g2 g3 c) 6 0 (5 : Int32) (.int (((((0 : Int32) + (s0 * ((((((0 : Int32) + s0) + s1) + s2) + s3) - ((0 : Int32) + s0)))) + (s1 * ((((((0 : Int32) + s0) + s1) + s2) + s3) - (((0 : Int32) + s0) + s1)))) + (g2 * s3)) + g3)) = some (oH278 s0 s1 s2 s3 g0 g1 g2 g3 c) from rfl)]
  rw [own_bs (show gR (oH278 s0 s1 s2 s3 g0 g1 g2 g3 c) 1 1 0 = some 2 from rfl)]
  rw [own_bs (show rI (oH278 s0 s1 s2 s3 g0 g1 g2 g3 c) 2 0 (2 : Int32) = some s2 from rfl)]
  rw [own_bs (show gR (oH278 s0 s1 s2 s3 g0 g1 g2 g3 c) 1 1 0 = some 2 from rfl)]
  rw [own_bs (show rI (oH278 s0 s1 s2 s3 g0 g1 g2 g3 c) 2 0 (3 : Int32) = some s3 from rfl)]
  rw [own_letU]
  try rw [show ((5 : Int32) + (1 : Int32)) = (6 : Int32) from rfl]
  try rw [show ((3 : Int32) + (1 : Int32)) = (4 : Int32) from rfl]
  rw [sg8_39]
  rw [own_bs (show gR (oH278 s0 s1 s2 s3 g0 g1 g2 g3 c) 1 1 0 = some 2 from rfl)]
  rw [own_bs (show lA (oH278 s0 s1 s2 s3 g0 g1 g2 g3 c) 2 0 = some (4 : Int32) from rfl)]
  rw [if_neg (by decide : ¬ ((4 : Int32) < (4 : Int32)))]
  rw [Option.bind_some]
  rw [own_letP1]
  rw [own_letP21]
  rw [own_letP221]
  rw [own_letP222]
  try rw [show ((2 : Int32) + (1 : Int32)) = (3 : Int32) from rfl]
  rw [b8_6]
  rw [own_bs (show gR (oH278 s0 s1 s2 s3 g0 g1 g2 g3 c) 1 1 0 = some 2 from rfl)]
  rw [own_bs (show lA (oH278 s0 s1 s2 s3 g0 g1 g2 g3 c) 2 0 = some (4 : Int32) from rfl)]
  rw [if_pos (by decide : ((3 : Int32) < (4 : Int32)))]
  rw [own_bs (show gR (oH278 s0 s1 s2 s3 g0 g1 g2 g3 c) 1 1 2 = some 4 from rfl)]
  rw [own_bs (show rI (oH278 s0 s1 s2 s3 g0 g1 g2 g3 c) 4 0 (3 : Int32) = some ((((0 : Int32) + (s0 * ((((((0 : Int32) + s0) + s1) + s2) + s3) - ((0 : Int32) + s0)))) + (s1 * ((((((0 : Int32) + s0) + s1) + s2) + s3) - (((0 : Int32) + s0) + s1)))) + (s2 * ((((((0 : Int32) + s0) + s1) + s2) + s3) - ((((0 : Int32) + s0) + s1) + s2)))) from rfl)]
  rw [own_bs (show rI (oH278 s0 s1 s2 s3 g0 g1 g2 g3 c) 5 0 ((2 : Int32) + (3 : Int32)) = some g3 from rfl)]
  rw [own_letV (show ((3 : Int32) + (1 : Int32)) = (4 : Int32) from rfl)]
  rw [sg8_39]
  rw [own_bs (show gR (oH278 s0 s1 s2 s3 g0 g1 g2 g3 c) 1 1 0 = some 2 from rfl)]
  rw [own_bs (show lA (oH278 s0 s1 s2 s3 g0 g1 g2 g3 c) 2 0 = some (4 : Int32) from rfl)]
  rw [if_neg (by decide : ¬ ((4 : Int32) < (4 : Int32)))]
  rw [Option.bind_some]
  rw [own_letP1]
  rw [own_letP21]
  rw [own_letP221]
  rw [own_letP222]
  try rw [show ((3 : Int32) + (1 : Int32)) = (4 : Int32) from rfl]
  rw [b8_6]
  rw [own_bs (show gR (oH278 s0 s1 s2 s3 g0 g1 g2 g3 c) 1 1 0 = some 2 from rfl)]
  rw [own_bs (show lA (oH278 s0 s1 s2 s3 g0 g1 g2 g3 c) 2 0 = some (4 : Int32) from rfl)]
  rw [if_neg (by decide : ¬ ((4 : Int32) < (4 : Int32)))]
set_option maxRecDepth 20000 in
set_option maxHeartbeats 4000000 in
theorem own_c_4_2 (s0 s1 s2 s3 g0 g1 g2 g3 : Int32) (h0 : 0 ≤ s0.toInt ∧ s0.toInt ≤ 512) (h1 : 0 ≤ s1.toInt ∧ s1.toInt ≤ 512) (h2 : 0 ≤ s2.toInt ∧ s2.toInt ≤ 512) (h3 : 0 ≤ s3.toInt ∧ s3.toInt ≤ 512) : ∃ D', b0_128 (oH184 s0 s1 s2) s0 s1 s2 s3 (4 : Int32) (2 : Int32) g0 g1 g2 g3 0 = some ((1 : Int32), D') := by
  rw [b0_128]
  rw [if_neg (by decide : ¬ ((4 : Int32) < (4 : Int32)))]
  rw [own_bs (show wV (oH184 s0 s1 s2) 0 0 (3 : Int32) (.int s3) = some (oH185 s0 s1 s2 s3) from rfl)]
  rw [b0_140]
  rw [own_letV (show List.length (oH185 s0 s1 s2 s3) = 1 from rfl)]
  rw [own_letV (show (oH185 s0 s1 s2 s3) ++ ([(1, [.null, .null, .null, .int (0 : Int32)])] : Hp) = (oH186 s0 s1 s2 s3) from rfl)]
  obtain ⟨c, h1⟩ := own_f1_4 s0 s1 s2 s3 g0 g1 g2 g3 h0 h1 h2 h3
  rw [h1]
  rw [Option.bind_some]
  rw [own_letV (show List.length (oH208 s0 s1 s2 s3 c) = 5 from rfl)]
  rw [own_bs (show nA (oH208 s0 s1 s2 s3 c) 0 (8 : Int32) 8 (.int (0 : Int32)) = some (oH209 s0 s1 s2 s3 c) from rfl)]
  rw [own_bs (show wV (oH209 s0 s1 s2 s3 c) 5 0 (0 : Int32) (.int (100 : Int32)) = some (oH210 s0 s1 s2 s3 c) from rfl)]
  rw [own_bs (show wV (oH210 s0 s1 s2 s3 c) 5 0 (1 : Int32) (.int (101 : Int32)) = some (oH211 s0 s1 s2 s3 c) from rfl)]
  rw [own_bs (show wV (oH211 s0 s1 s2 s3 c) 5 0 (2 : Int32) (.int (102 : Int32)) = some (oH212 s0 s1 s2 s3 c) from rfl)]
  rw [own_bs (show wV (oH212 s0 s1 s2 s3 c) 5 0 (3 : Int32) (.int (103 : Int32)) = some (oH213 s0 s1 s2 s3 c) from rfl)]
  rw [own_bs (show wV (oH213 s0 s1 s2 s3 c) 5 0 (4 : Int32) (.int (104 : Int32)) = some (oH214 s0 s1 s2 s3 c) from rfl)]
  rw [own_bs (show wV (oH214 s0 s1 s2 s3 c) 5 0 (5 : Int32) (.int (105 : Int32)) = some (oH215 s0 s1 s2 s3 c) from rfl)]
  rw [own_bs (show wV (oH215 s0 s1 s2 s3 c) 5 0 (6 : Int32) (.int (106 : Int32)) = some (oH216 s0 s1 s2 s3 c) from rfl)]
  rw [own_bs (show wV (oH216 s0 s1 s2 s3 c) 5 0 (7 : Int32) (.int (107 : Int32)) = some (oH217 s0 s1 s2 s3 c) from rfl)]
  rw [own_bs (show wV (oH217 s0 s1 s2 s3 c) 5 0 (2 : Int32) (.int g0) = some (oH260 s0 s1 s2 s3 g0 c) from rfl)]
  rw [own_bs (show wV (oH260 s0 s1 s2 s3 g0 c) 5 0 ((2 : Int32) + (1 : Int32)) (.int g1) = some (oH261 s0 s1 s2 s3 g0 g1 c) from rfl)]
  rw [if_neg (by decide : ¬ ((4 : Int32) < (3 : Int32)))]
  rw [own_bs (show wV (oH261 s0 s1 s2 s3 g0 g1 c) 5 0 ((2 : Int32) + (2 : Int32)) (.int g2) = some (oH262 s0 s1 s2 s3 g0 g1 g2 c) from rfl)]
  rw [b0_238]
  rw [if_neg (by decide : ¬ ((4 : Int32) < (4 : Int32)))]
  rw [own_bs (show wV (oH262 s0 s1 s2 s3 g0 g1 g2 c) 5 0 ((2 : Int32) + (3 : Int32)) (.int g3) = some (oH264 s0 s1 s2 s3 g0 g1 g2 g3 c) from rfl)]
  rw [b0_253]
  rw [own_letV (show List.length (oH264 s0 s1 s2 s3 g0 g1 g2 g3 c) = 6 from rfl)]
  rw [own_bs (show nA (oH264 s0 s1 s2 s3 g0 g1 g2 g3 c) 0 (7 : Int32) 7 (.int (0 : Int32)) = some (oH265 s0 s1 s2 s3 g0 g1 g2 g3 c) from rfl)]
  rw [own_bs (show wV (oH265 s0 s1 s2 s3 g0 g1 g2 g3 c) 6 0 (0 : Int32) (.int (-1 : Int32)) = some (oH266 s0 s1 s2 s3 g0 g1 g2 g3 c) from rfl)]
  rw [own_bs (show wV (oH266 s0 s1 s2 s3 g0 g1 g2 g3 c) 6 0 (1 : Int32) (.int (-1 : Int32)) = some (oH267 s0 s1 s2 s3 g0 g1 g2 g3 c) from rfl)]
  rw [own_bs (show wV (oH267 s0 s1 s2 s3 g0 g1 g2 g3 c) 6 0 (2 : Int32) (.int (-1 : Int32)) = some (oH268 s0 s1 s2 s3 g0 g1 g2 g3 c) from rfl)]
  rw [own_bs (show wV (oH268 s0 s1 s2 s3 g0 g1 g2 g3 c) 6 0 (3 : Int32) (.int (-1 : Int32)) = some (oH269 s0 s1 s2 s3 g0 g1 g2 g3 c) from rfl)]
  rw [own_bs (show wV (oH269 s0 s1 s2 s3 g0 g1 g2 g3 c) 6 0 (4 : Int32) (.int (-1 : Int32)) = some (oH270 s0 s1 s2 s3 g0 g1 g2 g3 c) from rfl)]
  rw [own_bs (show wV (oH270 s0 s1 s2 s3 g0 g1 g2 g3 c) 6 0 (5 : Int32) (.int (-1 : Int32)) = some (oH271 s0 s1 s2 s3 g0 g1 g2 g3 c) from rfl)]
  rw [own_bs (show wV (oH271 s0 s1 s2 s3 g0 g1 g2 g3 c) 6 0 (6 : Int32) (.int (-1 : Int32)) = some (oH272 s0 s1 s2 s3 g0 g1 g2 g3 c) from rfl)]
  rw [own_bs (show ck (oH272 s0 s1 s2 s3 g0 g1 g2 g3 c) 1 1 = some 1 from rfl)]
  rw [own_f8_4_2 s0 s1 s2 s3 g0 g1 g2 g3 c]
  rw [Option.bind_some]
  rw [own_letU]
  rw [own_letU]
  rw [own_letU]
  rw [own_letU]
  rw [own_letU]
  rw [own_letU]
  rw [if_pos (by decide : ((4 : Int32) = (4 : Int32)))]
  rw [b0_374]
  rw [own_letU]
  rw [own_letU]
  rw [own_letU]
  rw [own_letU]
  rw [own_letU]
  rw [own_letU]
  rw [own_letU]
  rw [own_letU]
  rw [if_neg (by decide : ¬ ((4 : Int32) = (2 : Int32)))]
  rw [if_neg (by decide : ¬ ((4 : Int32) = (3 : Int32)))]
  rw [own_bs (show rI (oH278 s0 s1 s2 s3 g0 g1 g2 g3 c) 6 0 (0 : Int32) = some (((0 : Int32) + (g0 * s1)) + g1) from rfl)]
  rw [if_pos (own_r0 s0 s1 s2 s3 g0 g1 g2 g3)]
  rw [own_bs (show rI (oH278 s0 s1 s2 s3 g0 g1 g2 g3 c) 6 0 (1 : Int32) = some ((((0 : Int32) + (s0 * s1)) + (g0 * s2)) + g2) from rfl)]
  rw [if_pos (own_r1 s0 s1 s2 s3 g0 g1 g2 g3)]
  rw [own_bs (show rI (oH278 s0 s1 s2 s3 g0 g1 g2 g3 c) 6 0 (2 : Int32) = some (((((0 : Int32) + (s0 * s1)) + (s0 * s2)) + (g0 * s3)) + g3) from rfl)]
  rw [if_pos (own_r3 s0 s1 s2 s3 g0 g1 g2 g3)]
  rw [own_bs (show rI (oH278 s0 s1 s2 s3 g0 g1 g2 g3 c) 6 0 (3 : Int32) = some ((((0 : Int32) + (s0 * ((((((0 : Int32) + s0) + s1) + s2) + s3) - ((0 : Int32) + s0)))) + (g1 * s2)) + g2) from rfl)]
  rw [if_pos (own_r4 s0 s1 s2 s3 g0 g1 g2 g3)]
  rw [own_bs (show rI (oH278 s0 s1 s2 s3 g0 g1 g2 g3 c) 6 0 (4 : Int32) = some (((((0 : Int32) + (s0 * ((((((0 : Int32) + s0) + s1) + s2) + s3) - ((0 : Int32) + s0)))) + (s1 * s2)) + (g1 * s3)) + g3) from rfl)]
  rw [if_pos (own_r5 s0 s1 s2 s3 g0 g1 g2 g3)]
  rw [own_bs (show rI (oH278 s0 s1 s2 s3 g0 g1 g2 g3 c) 6 0 (5 : Int32) = some (((((0 : Int32) + (s0 * ((((((0 : Int32) + s0) + s1) + s2) + s3) - ((0 : Int32) + s0)))) + (s1 * ((((((0 : Int32) + s0) + s1) + s2) + s3) - (((0 : Int32) + s0) + s1)))) + (g2 * s3)) + g3) from rfl)]
  rw [if_pos (own_r6 s0 s1 s2 s3 g0 g1 g2 g3)]
  rw [own_bs (show rI (oH278 s0 s1 s2 s3 g0 g1 g2 g3 c) 6 0 (6 : Int32) = some (-1 : Int32) from rfl)]
  rw [if_pos (by decide : ((-1 : Int32) = (-1 : Int32)))]
  exact ⟨_, rfl⟩
set_option maxRecDepth 20000 in
set_option maxHeartbeats 4000000 in
theorem own_f8_4_3 (s0 s1 s2 s3 g0 g1 g2 g3 : Int32) (c : Int64) : f8 (oH291 s0 s1 s2 s3 g0 g1 g2 g3 c) 1 5 (3 : Int32) 6 = some (oH297 s0 s1 s2 s3 g0 g1 g2 g3 c) := by
  rw [f8]
  rw [b8_6]
  rw [own_bs (show gR (oH291 s0 s1 s2 s3 g0 g1 g2 g3 c) 1 1 0 = some 2 from rfl)]
  rw [own_bs (show lA (oH291 s0 s1 s2 s3 g0 g1 g2 g3 c) 2 0 = some (4 : Int32) from rfl)]
  rw [if_pos (by decide : ((0 : Int32) < (4 : Int32)))]
  rw [own_bs (show gR (oH291 s0 s1 s2 s3 g0 g1 g2 g3 c) 1 1 2 = some 4 from rfl)]
  rw [own_bs (show rI (oH291 s0 s1 s2 s3 g0 g1 g2 g3 c) 4 0 (0 : Int32) = some (0 : Int32) from rfl)]
  rw [own_bs (show rI (oH291 s0 s1 s2 s3 g0 g1 g2 g3 c) 5 0 ((3 : Int32) + (0 : Int32)) = some g0 from rfl)]
  rw [own_letV (show ((0 : Int32) + (1 : Int32)) = (1 : Int32) from rfl)]
  rw [sg8_39]
  rw [own_bs (show gR (oH291 s0 s1 s2 s3 g0 g1 g2 g3 c) 1 1 0 = some 2 from rfl)]
  rw [own_bs (show lA (oH291 s0 s1 s2 s3 g0 g1 g2 g3 c) 2 0 = some (4 : Int32) from rfl)]
  rw [if_pos (by decide : ((1 : Int32) < (4 : Int32)))]
  rw [own_bs (show gR (oH291 s0 s1 s2 s3 g0 g1 g2 g3 c) 1 1 0 = some 2 from rfl)]
  rw [own_bs (show rI (oH291 s0 s1 s2 s3 g0 g1 g2 g3 c) 2 0 (1 : Int32) = some s1 from rfl)]
  rw [own_bs (show rI (oH291 s0 s1 s2 s3 g0 g1 g2 g3 c) 5 0 ((3 : Int32) + (1 : Int32)) = some g1 from rfl)]
  rw [own_bs (show wV (oH291 s0 s1 s2 s3 g0 g1 g2 g3 c) 6 0 (0 : Int32) (.int (((0 : Int32) + (g0 * s1)) + g1)) = some (oH292 s0 s1 s2 s3 g0 g1 g2 g3 c) from rfl)]
  rw [own_bs (show gR (oH292 s0 s1 s2 s3 g0 g1 g2 g3 c) 1 1 0 = some 2 from rfl)]
  rw [own_bs (show rI (oH292 s0 s1 s2 s3 g0 g1 g2 g3 c) 2 0 (0 : Int32) = some s0 from rfl)]
  rw [own_bs (show gR (oH292 s0 s1 s2 s3 g0 g1 g2 g3 c) 1 1 0 = some 2 from rfl)]
  rw [own_bs (show rI (oH292 s0 s1 s2 s3 g0 g1 g2 g3 c) 2 0 (1 : Int32) = some s1 from rfl)]
  rw [own_letU]
  try rw [show ((0 : Int32) + (1 : Int32)) = (1 : Int32) from rfl]
  try rw [show ((1 : Int32) + (1 : Int32)) = (2 : Int32) from rfl]
  rw [sg8_39]
  rw [own_bs (show gR (oH292 s0 s1 s2 s3 g0 g1 g2 g3 c) 1 1 0 = some 2 from rfl)]
  rw [own_bs (show lA (oH292 s0 s1 s2 s3 g0 g1 g2 g3 c) 2 0 = some (4 : Int32) from rfl)]
  rw [if_pos (by decide : ((2 : Int32) < (4 : Int32)))]
  rw [own_bs (show gR (oH292 s0 s1 s2 s3 g0 g1 g2 g3 c) 1 1 0 = some 2 from rfl)]
  rw [own_bs (show rI (oH292 s0 s1 s2 s3 g0 g1 g2 g3 c) 2 0 (2 : Int32) = some s2 from rfl)]
  rw [own_bs (show rI (oH292 s0 s1 s2 s3 g0 g1 g2 g3 c) 5 0 ((3 : Int32) + (2 : Int32)) = some g2 from rfl)]
  rw [own_bs (show wV (oH292 s0 s1 s2 s3 g0 g1 g2 g3 c) 6 0 (1 : Int32) (.int ((((0 : Int32) + (s0 * s1)) + (g0 * s2)) + g2)) = some (oH293 s0 s1 s2 s3 g0 g1 g2 g3 c) from rfl)]
  rw [own_bs (show gR (oH293 s0 s1 s2 s3 g0 g1 g2 g3 c) 1 1 0 = some 2 from rfl)]
  rw [own_bs (show rI (oH293 s0 s1 s2 s3 g0 g1 g2 g3 c) 2 0 (0 : Int32) = some s0 from rfl)]
  rw [own_bs (show gR (oH293 s0 s1 s2 s3 g0 g1 g2 g3 c) 1 1 0 = some 2 from rfl)]
  rw [own_bs (show rI (oH293 s0 s1 s2 s3 g0 g1 g2 g3 c) 2 0 (2 : Int32) = some s2 from rfl)]
  rw [own_letU]
  try rw [show ((1 : Int32) + (1 : Int32)) = (2 : Int32) from rfl]
  try rw [show ((2 : Int32) + (1 : Int32)) = (3 : Int32) from rfl]
  rw [sg8_39]
  rw [own_bs (show gR (oH293 s0 s1 s2 s3 g0 g1 g2 g3 c) 1 1 0 = some 2 from rfl)]
  rw [own_bs (show lA (oH293 s0 s1 s2 s3 g0 g1 g2 g3 c) 2 0 = some (4 : Int32) from rfl)]
  rw [if_pos (by decide : ((3 : Int32) < (4 : Int32)))]
  rw [own_bs (show gR (oH293 s0 s1 s2 s3 g0 g1 g2 g3 c) 1 1 0 = some 2 from rfl)]
  rw [own_bs (show rI (oH293 s0 s1 s2 s3 g0 g1 g2 g3 c) 2 0 (3 : Int32) = some s3 from rfl)]
  rw [own_bs (show rI (oH293 s0 s1 s2 s3 g0 g1 g2 g3 c) 5 0 ((3 : Int32) + (3 : Int32)) = some g3 from rfl)]
  rw [own_bs (show wV (oH293 s0 s1 s2 s3 g0 g1 g2 g3 c) 6 0 (2 : Int32) (.int (((((0 : Int32) + (s0 * s1)) + (s0 * s2)) + (g0 * s3)) + g3)) = some (oH294 s0 s1 s2 s3 g0 g1 g2 g3 c) from rfl)]
  rw [own_bs (show gR (oH294 s0 s1 s2 s3 g0 g1 g2 g3 c) 1 1 0 = some 2 from rfl)]
  rw [own_bs (show rI (oH294 s0 s1 s2 s3 g0 g1 g2 g3 c) 2 0 (0 : Int32) = some s0 from rfl)]
  rw [own_bs (show gR (oH294 s0 s1 s2 s3 g0 g1 g2 g3 c) 1 1 0 = some 2 from rfl)]
  rw [own_bs (show rI (oH294 s0 s1 s2 s3 g0 g1 g2 g3 c) 2 0 (3 : Int32) = some s3 from rfl)]
  rw [own_letU]
  try rw [show ((2 : Int32) + (1 : Int32)) = (3 : Int32) from rfl]
  try rw [show ((3 : Int32) + (1 : Int32)) = (4 : Int32) from rfl]
  rw [sg8_39]
  rw [own_bs (show gR (oH294 s0 s1 s2 s3 g0 g1 g2 g3 c) 1 1 0 = some 2 from rfl)]
  rw [own_bs (show lA (oH294 s0 s1 s2 s3 g0 g1 g2 g3 c) 2 0 = some (4 : Int32) from rfl)]
  rw [if_neg (by decide : ¬ ((4 : Int32) < (4 : Int32)))]
  rw [Option.bind_some]
  rw [own_letP1]
  rw [own_letP21]
  rw [own_letP221]
  rw [own_letP222]
  try rw [show ((0 : Int32) + (1 : Int32)) = (1 : Int32) from rfl]
  rw [b8_6]
  rw [own_bs (show gR (oH294 s0 s1 s2 s3 g0 g1 g2 g3 c) 1 1 0 = some 2 from rfl)]
  rw [own_bs (show lA (oH294 s0 s1 s2 s3 g0 g1 g2 g3 c) 2 0 = some (4 : Int32) from rfl)]
  rw [if_pos (by decide : ((1 : Int32) < (4 : Int32)))]
  rw [own_bs (show gR (oH294 s0 s1 s2 s3 g0 g1 g2 g3 c) 1 1 2 = some 4 from rfl)]
  rw [own_bs (show rI (oH294 s0 s1 s2 s3 g0 g1 g2 g3 c) 4 0 (1 : Int32) = some ((0 : Int32) + (s0 * ((((((0 : Int32) + s0) + s1) + s2) + s3) - ((0 : Int32) + s0)))) from rfl)]
  rw [own_bs (show rI (oH294 s0 s1 s2 s3 g0 g1 g2 g3 c) 5 0 ((3 : Int32) + (1 : Int32)) = some g1 from rfl)]
  rw [own_letV (show ((1 : Int32) + (1 : Int32)) = (2 : Int32) from rfl)]
  rw [sg8_39]
  rw [own_bs (show gR (oH294 s0 s1 s2 s3 g0 g1 g2 g3 c) 1 1 0 = some 2 from rfl)]
  rw [own_bs (show lA (oH294 s0 s1 s2 s3 g0 g1 g2 g3 c) 2 0 = some (4 : Int32) from rfl)]
  rw [if_pos (by decide : ((2 : Int32) < (4 : Int32)))]
  rw [own_bs (show gR (oH294 s0 s1 s2 s3 g0 g1 g2 g3 c) 1 1 0 = some 2 from rfl)]
  rw [own_bs (show rI (oH294 s0 s1 s2 s3 g0 g1 g2 g3 c) 2 0 (2 : Int32) = some s2 from rfl)]
  rw [own_bs (show rI (oH294 s0 s1 s2 s3 g0 g1 g2 g3 c) 5 0 ((3 : Int32) + (2 : Int32)) = some g2 from rfl)]
  rw [own_bs (show wV (oH294 s0 s1 s2 s3 g0 g1 g2 g3 c) 6 0 (3 : Int32) (.int ((((0 : Int32) + (s0 * ((((((0 : Int32) + s0) + s1) + s2) + s3) - ((0 : Int32) + s0)))) + (g1 * s2)) + g2)) = some (oH295 s0 s1 s2 s3 g0 g1 g2 g3 c) from rfl)]
  rw [own_bs (show gR (oH295 s0 s1 s2 s3 g0 g1 g2 g3 c) 1 1 0 = some 2 from rfl)]
  rw [own_bs (show rI (oH295 s0 s1 s2 s3 g0 g1 g2 g3 c) 2 0 (1 : Int32) = some s1 from rfl)]
  rw [own_bs (show gR (oH295 s0 s1 s2 s3 g0 g1 g2 g3 c) 1 1 0 = some 2 from rfl)]
  rw [own_bs (show rI (oH295 s0 s1 s2 s3 g0 g1 g2 g3 c) 2 0 (2 : Int32) = some s2 from rfl)]
  rw [own_letU]
  try rw [show ((3 : Int32) + (1 : Int32)) = (4 : Int32) from rfl]
  try rw [show ((2 : Int32) + (1 : Int32)) = (3 : Int32) from rfl]
  rw [sg8_39]
  rw [own_bs (show gR (oH295 s0 s1 s2 s3 g0 g1 g2 g3 c) 1 1 0 = some 2 from rfl)]
  rw [own_bs (show lA (oH295 s0 s1 s2 s3 g0 g1 g2 g3 c) 2 0 = some (4 : Int32) from rfl)]
  rw [if_pos (by decide : ((3 : Int32) < (4 : Int32)))]
  rw [own_bs (show gR (oH295 s0 s1 s2 s3 g0 g1 g2 g3 c) 1 1 0 = some 2 from rfl)]
  rw [own_bs (show rI (oH295 s0 s1 s2 s3 g0 g1 g2 g3 c) 2 0 (3 : Int32) = some s3 from rfl)]
  rw [own_bs (show rI (oH295 s0 s1 s2 s3 g0 g1 g2 g3 c) 5 0 ((3 : Int32) + (3 : Int32)) = some g3 from rfl)]
  rw [own_bs (show wV (oH295 s0 s1 s2 s3 g0 g1 g2 g3 c) 6 0 (4 : Int32) (.int (((((0 : Int32) + (s0 * ((((((0 : Int32) + s0) + s1) + s2) + s3) - ((0 : Int32) + s0)))) + (s1 * s2)) + (g1 * s3)) + g3)) = some (oH296 s0 s1 s2 s3 g0 g1 g2 g3 c) from rfl)]
  rw [own_bs (show gR (oH296 s0 s1 s2 s3 g0 g1 g2 g3 c) 1 1 0 = some 2 from rfl)]
  rw [own_bs (show rI (oH296 s0 s1 s2 s3 g0 g1 g2 g3 c) 2 0 (1 : Int32) = some s1 from rfl)]
  rw [own_bs (show gR (oH296 s0 s1 s2 s3 g0 g1 g2 g3 c) 1 1 0 = some 2 from rfl)]
  rw [own_bs (show rI (oH296 s0 s1 s2 s3 g0 g1 g2 g3 c) 2 0 (3 : Int32) = some s3 from rfl)]
  rw [own_letU]
  try rw [show ((4 : Int32) + (1 : Int32)) = (5 : Int32) from rfl]
  try rw [show ((3 : Int32) + (1 : Int32)) = (4 : Int32) from rfl]
  rw [sg8_39]
  rw [own_bs (show gR (oH296 s0 s1 s2 s3 g0 g1 g2 g3 c) 1 1 0 = some 2 from rfl)]
  rw [own_bs (show lA (oH296 s0 s1 s2 s3 g0 g1 g2 g3 c) 2 0 = some (4 : Int32) from rfl)]
  rw [if_neg (by decide : ¬ ((4 : Int32) < (4 : Int32)))]
  rw [Option.bind_some]
  rw [own_letP1]
  rw [own_letP21]
  rw [own_letP221]
  rw [own_letP222]
  try rw [show ((1 : Int32) + (1 : Int32)) = (2 : Int32) from rfl]
  rw [b8_6]
  rw [own_bs (show gR (oH296 s0 s1 s2 s3 g0 g1 g2 g3 c) 1 1 0 = some 2 from rfl)]
  rw [own_bs (show lA (oH296 s0 s1 s2 s3 g0 g1 g2 g3 c) 2 0 = some (4 : Int32) from rfl)]
  rw [if_pos (by decide : ((2 : Int32) < (4 : Int32)))]
  rw [own_bs (show gR (oH296 s0 s1 s2 s3 g0 g1 g2 g3 c) 1 1 2 = some 4 from rfl)]
  rw [own_bs (show rI (oH296 s0 s1 s2 s3 g0 g1 g2 g3 c) 4 0 (2 : Int32) = some (((0 : Int32) + (s0 * ((((((0 : Int32) + s0) + s1) + s2) + s3) - ((0 : Int32) + s0)))) + (s1 * ((((((0 : Int32) + s0) + s1) + s2) + s3) - (((0 : Int32) + s0) + s1)))) from rfl)]
  rw [own_bs (show rI (oH296 s0 s1 s2 s3 g0 g1 g2 g3 c) 5 0 ((3 : Int32) + (2 : Int32)) = some g2 from rfl)]
  rw [own_letV (show ((2 : Int32) + (1 : Int32)) = (3 : Int32) from rfl)]
  rw [sg8_39]
  rw [own_bs (show gR (oH296 s0 s1 s2 s3 g0 g1 g2 g3 c) 1 1 0 = some 2 from rfl)]
  rw [own_bs (show lA (oH296 s0 s1 s2 s3 g0 g1 g2 g3 c) 2 0 = some (4 : Int32) from rfl)]
  rw [if_pos (by decide : ((3 : Int32) < (4 : Int32)))]
  rw [own_bs (show gR (oH296 s0 s1 s2 s3 g0 g1 g2 g3 c) 1 1 0 = some 2 from rfl)]
  rw [own_bs (show rI (oH296 s0 s1 s2 s3 g0 g1 g2 g3 c) 2 0 (3 : Int32) = some s3 from rfl)]
  rw [own_bs (show rI (oH296 s0 s1 s2 s3 g0 g1 g2 g3 c) 5 0 ((3 : Int32) + (3 : Int32)) = some g3 from rfl)]
  rw [own_bs (show wV (oH296 s0 s1 s2 s3 g0 g1 g2 g3 c) 6 0 (5 : Int32) (.int (((((0 : Int32) + (s0 * ((((((0 : Int32) + s0) + s1) + s2) + s3) - ((0 : Int32) + s0)))) + (s1 * ((((((0 : Int32) + s0) + s1) + s2) + s3) - (((0 : Int32) + s0) + s1)))) + (g2 * s3)) + g3)) = some (oH297 s0 s1 s2 s3 g0 g1 g2 g3 c) from rfl)]
  rw [own_bs (show gR (oH297 s0 s1 s2 s3 g0 g1 g2 g3 c) 1 1 0 = some 2 from rfl)]
  rw [own_bs (show rI (oH297 s0 s1 s2 s3 g0 g1 g2 g3 c) 2 0 (2 : Int32) = some s2 from rfl)]
  rw [own_bs (show gR (oH297 s0 s1 s2 s3 g0 g1 g2 g3 c) 1 1 0 = some 2 from rfl)]
  rw [own_bs (show rI (oH297 s0 s1 s2 s3 g0 g1 g2 g3 c) 2 0 (3 : Int32) = some s3 from rfl)]
  rw [own_letU]
  try rw [show ((5 : Int32) + (1 : Int32)) = (6 : Int32) from rfl]
  try rw [show ((3 : Int32) + (1 : Int32)) = (4 : Int32) from rfl]
  rw [sg8_39]
  rw [own_bs (show gR (oH297 s0 s1 s2 s3 g0 g1 g2 g3 c) 1 1 0 = some 2 from rfl)]
  rw [own_bs (show lA (oH297 s0 s1 s2 s3 g0 g1 g2 g3 c) 2 0 = some (4 : Int32) from rfl)]
  rw [if_neg (by decide : ¬ ((4 : Int32) < (4 : Int32)))]
  rw [Option.bind_some]
  rw [own_letP1]
  rw [own_letP21]
  rw [own_letP221]
  rw [own_letP222]
  try rw [show ((2 : Int32) + (1 : Int32)) = (3 : Int32) from rfl]
  rw [b8_6]
  rw [own_bs (show gR (oH297 s0 s1 s2 s3 g0 g1 g2 g3 c) 1 1 0 = some 2 from rfl)]
  rw [own_bs (show lA (oH297 s0 s1 s2 s3 g0 g1 g2 g3 c) 2 0 = some (4 : Int32) from rfl)]
  rw [if_pos (by decide : ((3 : Int32) < (4 : Int32)))]
  rw [own_bs (show gR (oH297 s0 s1 s2 s3 g0 g1 g2 g3 c) 1 1 2 = some 4 from rfl)]
  rw [own_bs (show rI (oH297 s0 s1 s2 s3 g0 g1 g2 g3 c) 4 0 (3 : Int32) = some ((((0 : Int32) + (s0 * ((((((0 : Int32) + s0) + s1) + s2) + s3) - ((0 : Int32) + s0)))) + (s1 * ((((((0 : Int32) + s0) + s1) + s2) + s3) - (((0 : Int32) + s0) + s1)))) + (s2 * ((((((0 : Int32) + s0) + s1) + s2) + s3) - ((((0 : Int32) + s0) + s1) + s2)))) from rfl)]
  rw [own_bs (show rI (oH297 s0 s1 s2 s3 g0 g1 g2 g3 c) 5 0 ((3 : Int32) + (3 : Int32)) = some g3 from rfl)]
  rw [own_letV (show ((3 : Int32) + (1 : Int32)) = (4 : Int32) from rfl)]
  rw [sg8_39]
  rw [own_bs (show gR (oH297 s0 s1 s2 s3 g0 g1 g2 g3 c) 1 1 0 = some 2 from rfl)]
  rw [own_bs (show lA (oH297 s0 s1 s2 s3 g0 g1 g2 g3 c) 2 0 = some (4 : Int32) from rfl)]
  rw [if_neg (by decide : ¬ ((4 : Int32) < (4 : Int32)))]
  rw [Option.bind_some]
  rw [own_letP1]
  rw [own_letP21]
  rw [own_letP221]
  rw [own_letP222]
  try rw [show ((3 : Int32) + (1 : Int32)) = (4 : Int32) from rfl]
  rw [b8_6]
  rw [own_bs (show gR (oH297 s0 s1 s2 s3 g0 g1 g2 g3 c) 1 1 0 = some 2 from rfl)]
  rw [own_bs (show lA (oH297 s0 s1 s2 s3 g0 g1 g2 g3 c) 2 0 = some (4 : Int32) from rfl)]
  rw [if_neg (by decide : ¬ ((4 : Int32) < (4 : Int32)))]
set_option maxRecDepth 20000 in
set_option maxHeartbeats 4000000 in
theorem own_c_4_3 (s0 s1 s2 s3 g0 g1 g2 g3 : Int32) (h0 : 0 ≤ s0.toInt ∧ s0.toInt ≤ 512) (h1 : 0 ≤ s1.toInt ∧ s1.toInt ≤ 512) (h2 : 0 ≤ s2.toInt ∧ s2.toInt ≤ 512) (h3 : 0 ≤ s3.toInt ∧ s3.toInt ≤ 512) : ∃ D', b0_128 (oH184 s0 s1 s2) s0 s1 s2 s3 (4 : Int32) (3 : Int32) g0 g1 g2 g3 0 = some ((1 : Int32), D') := by
  rw [b0_128]
  rw [if_neg (by decide : ¬ ((4 : Int32) < (4 : Int32)))]
  rw [own_bs (show wV (oH184 s0 s1 s2) 0 0 (3 : Int32) (.int s3) = some (oH185 s0 s1 s2 s3) from rfl)]
  rw [b0_140]
  rw [own_letV (show List.length (oH185 s0 s1 s2 s3) = 1 from rfl)]
  rw [own_letV (show (oH185 s0 s1 s2 s3) ++ ([(1, [.null, .null, .null, .int (0 : Int32)])] : Hp) = (oH186 s0 s1 s2 s3) from rfl)]
  obtain ⟨c, h1⟩ := own_f1_4 s0 s1 s2 s3 g0 g1 g2 g3 h0 h1 h2 h3
  rw [h1]
  rw [Option.bind_some]
  rw [own_letV (show List.length (oH208 s0 s1 s2 s3 c) = 5 from rfl)]
  rw [own_bs (show nA (oH208 s0 s1 s2 s3 c) 0 (8 : Int32) 8 (.int (0 : Int32)) = some (oH209 s0 s1 s2 s3 c) from rfl)]
  rw [own_bs (show wV (oH209 s0 s1 s2 s3 c) 5 0 (0 : Int32) (.int (100 : Int32)) = some (oH210 s0 s1 s2 s3 c) from rfl)]
  rw [own_bs (show wV (oH210 s0 s1 s2 s3 c) 5 0 (1 : Int32) (.int (101 : Int32)) = some (oH211 s0 s1 s2 s3 c) from rfl)]
  rw [own_bs (show wV (oH211 s0 s1 s2 s3 c) 5 0 (2 : Int32) (.int (102 : Int32)) = some (oH212 s0 s1 s2 s3 c) from rfl)]
  rw [own_bs (show wV (oH212 s0 s1 s2 s3 c) 5 0 (3 : Int32) (.int (103 : Int32)) = some (oH213 s0 s1 s2 s3 c) from rfl)]
  rw [own_bs (show wV (oH213 s0 s1 s2 s3 c) 5 0 (4 : Int32) (.int (104 : Int32)) = some (oH214 s0 s1 s2 s3 c) from rfl)]
  rw [own_bs (show wV (oH214 s0 s1 s2 s3 c) 5 0 (5 : Int32) (.int (105 : Int32)) = some (oH215 s0 s1 s2 s3 c) from rfl)]
  rw [own_bs (show wV (oH215 s0 s1 s2 s3 c) 5 0 (6 : Int32) (.int (106 : Int32)) = some (oH216 s0 s1 s2 s3 c) from rfl)]
  rw [own_bs (show wV (oH216 s0 s1 s2 s3 c) 5 0 (7 : Int32) (.int (107 : Int32)) = some (oH217 s0 s1 s2 s3 c) from rfl)]
  rw [own_bs (show wV (oH217 s0 s1 s2 s3 c) 5 0 (3 : Int32) (.int g0) = some (oH279 s0 s1 s2 s3 g0 c) from rfl)]
  rw [own_bs (show wV (oH279 s0 s1 s2 s3 g0 c) 5 0 ((3 : Int32) + (1 : Int32)) (.int g1) = some (oH280 s0 s1 s2 s3 g0 g1 c) from rfl)]
  rw [if_neg (by decide : ¬ ((4 : Int32) < (3 : Int32)))]
  rw [own_bs (show wV (oH280 s0 s1 s2 s3 g0 g1 c) 5 0 ((3 : Int32) + (2 : Int32)) (.int g2) = some (oH281 s0 s1 s2 s3 g0 g1 g2 c) from rfl)]
  rw [b0_238]
  rw [if_neg (by decide : ¬ ((4 : Int32) < (4 : Int32)))]
  rw [own_bs (show wV (oH281 s0 s1 s2 s3 g0 g1 g2 c) 5 0 ((3 : Int32) + (3 : Int32)) (.int g3) = some (oH283 s0 s1 s2 s3 g0 g1 g2 g3 c) from rfl)]
  rw [b0_253]
  rw [own_letV (show List.length (oH283 s0 s1 s2 s3 g0 g1 g2 g3 c) = 6 from rfl)]
  rw [own_bs (show nA (oH283 s0 s1 s2 s3 g0 g1 g2 g3 c) 0 (7 : Int32) 7 (.int (0 : Int32)) = some (oH284 s0 s1 s2 s3 g0 g1 g2 g3 c) from rfl)]
  rw [own_bs (show wV (oH284 s0 s1 s2 s3 g0 g1 g2 g3 c) 6 0 (0 : Int32) (.int (-1 : Int32)) = some (oH285 s0 s1 s2 s3 g0 g1 g2 g3 c) from rfl)]
  rw [own_bs (show wV (oH285 s0 s1 s2 s3 g0 g1 g2 g3 c) 6 0 (1 : Int32) (.int (-1 : Int32)) = some (oH286 s0 s1 s2 s3 g0 g1 g2 g3 c) from rfl)]
  rw [own_bs (show wV (oH286 s0 s1 s2 s3 g0 g1 g2 g3 c) 6 0 (2 : Int32) (.int (-1 : Int32)) = some (oH287 s0 s1 s2 s3 g0 g1 g2 g3 c) from rfl)]
  rw [own_bs (show wV (oH287 s0 s1 s2 s3 g0 g1 g2 g3 c) 6 0 (3 : Int32) (.int (-1 : Int32)) = some (oH288 s0 s1 s2 s3 g0 g1 g2 g3 c) from rfl)]
  rw [own_bs (show wV (oH288 s0 s1 s2 s3 g0 g1 g2 g3 c) 6 0 (4 : Int32) (.int (-1 : Int32)) = some (oH289 s0 s1 s2 s3 g0 g1 g2 g3 c) from rfl)]
  rw [own_bs (show wV (oH289 s0 s1 s2 s3 g0 g1 g2 g3 c) 6 0 (5 : Int32) (.int (-1 : Int32)) = some (oH290 s0 s1 s2 s3 g0 g1 g2 g3 c) from rfl)]
  rw [own_bs (show wV (oH290 s0 s1 s2 s3 g0 g1 g2 g3 c) 6 0 (6 : Int32) (.int (-1 : Int32)) = some (oH291 s0 s1 s2 s3 g0 g1 g2 g3 c) from rfl)]
  rw [own_bs (show ck (oH291 s0 s1 s2 s3 g0 g1 g2 g3 c) 1 1 = some 1 from rfl)]
  rw [own_f8_4_3 s0 s1 s2 s3 g0 g1 g2 g3 c]
  rw [Option.bind_some]
  rw [own_letU]
  rw [own_letU]
  rw [own_letU]
  rw [own_letU]
  rw [own_letU]
  rw [own_letU]
  rw [if_pos (by decide : ((4 : Int32) = (4 : Int32)))]
  rw [b0_374]
  rw [own_letU]
  rw [own_letU]
  rw [own_letU]
  rw [own_letU]
  rw [own_letU]
  rw [own_letU]
  rw [own_letU]
  rw [own_letU]
  rw [if_neg (by decide : ¬ ((4 : Int32) = (2 : Int32)))]
  rw [if_neg (by decide : ¬ ((4 : Int32) = (3 : Int32)))]
  rw [own_bs (show rI (oH297 s0 s1 s2 s3 g0 g1 g2 g3 c) 6 0 (0 : Int32) = some (((0 : Int32) + (g0 * s1)) + g1) from rfl)]
  rw [if_pos (own_r0 s0 s1 s2 s3 g0 g1 g2 g3)]
  rw [own_bs (show rI (oH297 s0 s1 s2 s3 g0 g1 g2 g3 c) 6 0 (1 : Int32) = some ((((0 : Int32) + (s0 * s1)) + (g0 * s2)) + g2) from rfl)]
  rw [if_pos (own_r1 s0 s1 s2 s3 g0 g1 g2 g3)]
  rw [own_bs (show rI (oH297 s0 s1 s2 s3 g0 g1 g2 g3 c) 6 0 (2 : Int32) = some (((((0 : Int32) + (s0 * s1)) + (s0 * s2)) + (g0 * s3)) + g3) from rfl)]
  rw [if_pos (own_r3 s0 s1 s2 s3 g0 g1 g2 g3)]
  rw [own_bs (show rI (oH297 s0 s1 s2 s3 g0 g1 g2 g3 c) 6 0 (3 : Int32) = some ((((0 : Int32) + (s0 * ((((((0 : Int32) + s0) + s1) + s2) + s3) - ((0 : Int32) + s0)))) + (g1 * s2)) + g2) from rfl)]
  rw [if_pos (own_r4 s0 s1 s2 s3 g0 g1 g2 g3)]
  rw [own_bs (show rI (oH297 s0 s1 s2 s3 g0 g1 g2 g3 c) 6 0 (4 : Int32) = some (((((0 : Int32) + (s0 * ((((((0 : Int32) + s0) + s1) + s2) + s3) - ((0 : Int32) + s0)))) + (s1 * s2)) + (g1 * s3)) + g3) from rfl)]
  rw [if_pos (own_r5 s0 s1 s2 s3 g0 g1 g2 g3)]
  rw [own_bs (show rI (oH297 s0 s1 s2 s3 g0 g1 g2 g3 c) 6 0 (5 : Int32) = some (((((0 : Int32) + (s0 * ((((((0 : Int32) + s0) + s1) + s2) + s3) - ((0 : Int32) + s0)))) + (s1 * ((((((0 : Int32) + s0) + s1) + s2) + s3) - (((0 : Int32) + s0) + s1)))) + (g2 * s3)) + g3) from rfl)]
  rw [if_pos (own_r6 s0 s1 s2 s3 g0 g1 g2 g3)]
  rw [own_bs (show rI (oH297 s0 s1 s2 s3 g0 g1 g2 g3 c) 6 0 (6 : Int32) = some (-1 : Int32) from rfl)]
  rw [if_pos (by decide : ((-1 : Int32) = (-1 : Int32)))]
  exact ⟨_, rfl⟩
set_option maxRecDepth 20000 in
set_option maxHeartbeats 4000000 in
theorem law_ok (i0 : Int32) (i1 : Int32) (i2 : Int32) (i3 : Int32) (i4 : Int32) (i5 : Int32) : ∃ D', f0 [] i0 i1 i2 i3 i4 i5 = some ((1 : Int32), D') := by
  rw [f0, own_letU, own_letU, own_letU, own_letU, own_letU, own_letU]
  have q0 := own_sz i0
  generalize (i0 &&& (7 : Int32)) + (1 : Int32) = s0 at q0 ⊢
  have q1 := own_sz ((i0.toUInt32 >>> ((3 : Int32) &&& 31).toUInt32).toInt32)
  generalize (((i0.toUInt32 >>> ((3 : Int32) &&& 31).toUInt32).toInt32) &&& (7 : Int32)) + (1 : Int32) = s1 at q1 ⊢
  have q2 := own_sz ((i0.toUInt32 >>> ((6 : Int32) &&& 31).toUInt32).toInt32)
  generalize (((i0.toUInt32 >>> ((6 : Int32) &&& 31).toUInt32).toInt32) &&& (7 : Int32)) + (1 : Int32) = s2 at q2 ⊢
  have q3 := own_sz ((i0.toUInt32 >>> ((9 : Int32) &&& 31).toUInt32).toInt32)
  generalize (((i0.toUInt32 >>> ((9 : Int32) &&& 31).toUInt32).toInt32) &&& (7 : Int32)) + (1 : Int32) = s3 at q3 ⊢
  have qn := own_n3 i5
  generalize (2 : Int32) + ((i5 &&& (255 : Int32)) % (3 : Int32)) = n at qn ⊢
  have qf := own_fr ((i5.toUInt32 >>> ((8 : Int32) &&& 31).toUInt32).toInt32)
  generalize ((i5.toUInt32 >>> ((8 : Int32) &&& 31).toUInt32).toInt32) &&& (3 : Int32) = fr at qf ⊢
  rw [if_neg (own_nz s0 q0.1), own_letU]
  generalize (i1 &&& (2147483647 : Int32)) % s0 = g0
  rw [if_neg (own_nz s1 q1.1), own_letU]
  generalize (i2 &&& (2147483647 : Int32)) % s1 = g1
  rw [if_neg (own_nz s2 q2.1), own_letU]
  generalize (i3 &&& (2147483647 : Int32)) % s2 = g2
  rw [if_neg (own_nz s3 q3.1), own_letU]
  generalize (i4 &&& (2147483647 : Int32)) % s3 = g3
  have h0 : 0 ≤ s0.toInt ∧ s0.toInt ≤ 512 := ⟨by omega, by omega⟩
  have h1 : 0 ≤ s1.toInt ∧ s1.toInt ≤ 512 := ⟨by omega, by omega⟩
  have h2 : 0 ≤ s2.toInt ∧ s2.toInt ≤ 512 := ⟨by omega, by omega⟩
  have h3 : 0 ≤ s3.toInt ∧ s3.toInt ≤ 512 := ⟨by omega, by omega⟩
  rcases qn with rfl | rfl | rfl
  · rw [own_letV (show List.length ([] : Hp) = 0 from rfl)]
    rw [own_bs (show nA ([] : Hp) 0 (2 : Int32) 8 (.int (0 : Int32)) = some oH299 from rfl)]
    rw [own_bs (show wV oH299 0 0 (0 : Int32) (.int s0) = some (oH300 s0) from rfl)]
    rw [own_bs (show wV (oH300 s0) 0 0 (1 : Int32) (.int s1) = some (oH0 s0 s1) from rfl)]
    rw [if_pos (by decide : ((2 : Int32) < (3 : Int32)))]
    rcases qf with rfl | rfl | rfl | rfl
    · exact own_c_2_0 s0 s1 s2 s3 g0 g1 g2 g3 h0 h1
    · exact own_c_2_1 s0 s1 s2 s3 g0 g1 g2 g3 h0 h1
    · exact own_c_2_2 s0 s1 s2 s3 g0 g1 g2 g3 h0 h1
    · exact own_c_2_3 s0 s1 s2 s3 g0 g1 g2 g3 h0 h1
  · rw [own_letV (show List.length ([] : Hp) = 0 from rfl)]
    rw [own_bs (show nA ([] : Hp) 0 (3 : Int32) 8 (.int (0 : Int32)) = some oH301 from rfl)]
    rw [own_bs (show wV oH301 0 0 (0 : Int32) (.int s0) = some (oH302 s0) from rfl)]
    rw [own_bs (show wV (oH302 s0) 0 0 (1 : Int32) (.int s1) = some (oH303 s0 s1) from rfl)]
    rw [if_neg (by decide : ¬ ((3 : Int32) < (3 : Int32)))]
    rw [own_bs (show wV (oH303 s0 s1) 0 0 (2 : Int32) (.int s2) = some (oH93 s0 s1 s2) from rfl)]
    rcases qf with rfl | rfl | rfl | rfl
    · exact own_c_3_0 s0 s1 s2 s3 g0 g1 g2 g3 h0 h1 h2
    · exact own_c_3_1 s0 s1 s2 s3 g0 g1 g2 g3 h0 h1 h2
    · exact own_c_3_2 s0 s1 s2 s3 g0 g1 g2 g3 h0 h1 h2
    · exact own_c_3_3 s0 s1 s2 s3 g0 g1 g2 g3 h0 h1 h2
  · rw [own_letV (show List.length ([] : Hp) = 0 from rfl)]
    rw [own_bs (show nA ([] : Hp) 0 (4 : Int32) 8 (.int (0 : Int32)) = some oH304 from rfl)]
    rw [own_bs (show wV oH304 0 0 (0 : Int32) (.int s0) = some (oH305 s0) from rfl)]
    rw [own_bs (show wV (oH305 s0) 0 0 (1 : Int32) (.int s1) = some (oH306 s0 s1) from rfl)]
    rw [if_neg (by decide : ¬ ((4 : Int32) < (3 : Int32)))]
    rw [own_bs (show wV (oH306 s0 s1) 0 0 (2 : Int32) (.int s2) = some (oH184 s0 s1 s2) from rfl)]
    rcases qf with rfl | rfl | rfl | rfl
    · exact own_c_4_0 s0 s1 s2 s3 g0 g1 g2 g3 h0 h1 h2 h3
    · exact own_c_4_1 s0 s1 s2 s3 g0 g1 g2 g3 h0 h1 h2 h3
    · exact own_c_4_2 s0 s1 s2 s3 g0 g1 g2 g3 h0 h1 h2 h3
    · exact own_c_4_3 s0 s1 s2 s3 g0 g1 g2 g3 h0 h1 h2 h3
set_option maxRecDepth 65536 in
set_option maxHeartbeats 40000000 in
theorem comes_1 {Post : Tables → Env → Array Value → State → Outcome → State → Prop} (hpost : ∀ tb e args s v u, (limb_1_1.after args s (.returned v) u = true ∧ limb_1_2.after args s (.returned v) u = true ∧ True) → FrameEnd s (.returned v) u (Jvm.fieldLocs frame_1_writes args s ++ Jvm.arrayLocs frame_1_arrays args s ++ Jvm.staticLocs frame_1_statics s) 24 192 → Post tb e args s (.returned v) u) :
    ArmFor flags0 classFile x code maxLocals ret World_1 tables_1 room_1 Calls_1 rest_1 Pre_1 Post := by
  intro l hfl _ _ p e ha hc hk s m args below hf hA hF happ hP
  obtain ⟨hcalls, hrest, hpre⟩ := hP
  obtain ⟨-, -, -, hnamed, -, -, -, hat⟩ := (Spec.applies_iff hf).mp happ
  obtain ⟨hg, hn⟩ := and_e (Cond.before_iff.mp (show (Jvm.Cond.and given_1 narrow_1).before args s = true from hpre))
  obtain ⟨g0, hg⟩ := and_e hg
  obtain ⟨gg0, hg⟩ := and_e hg
  obtain ⟨gg1, hg⟩ := and_e hg
  obtain ⟨gg2, hg⟩ := and_e hg
  obtain ⟨gg3, hg⟩ := and_e hg
  obtain ⟨gg4, hg⟩ := and_e hg
  have gg5 := hg
  obtain ⟨w0, w1, w2, w3, w4, w5, rfl⟩ : ∃ w0 w1 w2 w3 w4 w5 : Value, args = #[w0, w1, w2, w3, w4, w5] := by
    have hs : args.size = 6 := by simpa [Cond.value, given_1] using g0
    obtain ⟨L⟩ := args
    match L, hs with
    | [w0, w1, w2, w3, w4, w5], _ => exact ⟨w0, w1, w2, w3, w4, w5, rfl⟩
  have hw := fun d (hd : d ∈ tables_1) => atoms_spec (ws := Jvm.Cond.code x code maxLocals ret :: tables_1) hat d (List.mem_cons_of_mem _ hd)
  obtain ⟨i0, ei0⟩ := is_v gg0
  obtain rfl : w0 = (.int i0) := Option.some.inj ei0
  obtain ⟨i1, ei1⟩ := is_v gg1
  obtain rfl : w1 = (.int i1) := Option.some.inj ei1
  obtain ⟨i2, ei2⟩ := is_v gg2
  obtain rfl : w2 = (.int i2) := Option.some.inj ei2
  obtain ⟨i3, ei3⟩ := is_v gg3
  obtain rfl : w3 = (.int i3) := Option.some.inj ei3
  obtain ⟨i4, ei4⟩ := is_v gg4
  obtain rfl : w4 = (.int i4) := Option.some.inj ei4
  obtain ⟨i5, ei5⟩ := is_v gg5
  obtain rfl : w5 = (.int i5) := Option.some.inj ei5
  obtain ⟨D', hlaw⟩ := law_ok i0 i1 i2 i3 i4 i5
  obtain ⟨n, o, h1, h2, h3, _, L, rfl, ⟨rfl, N, -⟩, hq⟩ := ct0 (l := l) hw hlaw s.heap tables_1 (own_ow0 s.heap) p e ha hc hk s m _ below hf ((Spec.applies_iff_loose hf).mp happ).1 ⟨rfl, State.Warmed39.refl s, rfl⟩ trivial
  exact ⟨n, _, h1, h2, h3, hpost _ _ _ _ _ _ ⟨Cond.after_iff.mpr rfl, Cond.after_iff.mpr (eq_i res_at (Term.int_eval (1)) rfl), trivial⟩ ⟨hq.1, hq.2.1, (hq.2.2.sift fun y hy => Or.inr (N y hy)).mono (by decide) (by decide)⟩⟩
theorem main_1_1 : Claimed_1_1 := comes_1 fun _ _ _ _ _ _ h hF => ⟨h.1, hF⟩
theorem main_1_2 : Claimed_1_2 := comes_1 fun _ _ _ _ _ _ h hF => ⟨h.2.1, hF⟩
end Jvm.Pilot.@@N@@
namespace Jvm.Pilot.@@N@@
open Jvm Jvm.ClassFile Sem Op Lib Jvm.Free Jvm.Stand Jvm.Pilot.@@N@@.Jvm.D
/-! MADE BY PROGRAM (witnessworld.py) out of the Statement's table words and the real class files: 11 classes; the members and pool entries that the words name. The judged class is class 1, her method 1. -/
namespace start1
open Jvm.ClassFile
def u (s : String) : CpInfo := .utf8 (stringToUtf16 s)
/-- a pool by its gaps: so many unusable entries, then the entry; so many at the end -/
def gap : Nat → List CpInfo → List CpInfo
  | 0, r => r
  | n + 1, r => .unusable :: gap n r
def poolList (es : List (Nat × CpInfo)) (last : Nat) : List CpInfo := es.foldr (fun e r => gap e.1 (e.2 :: r)) (gap last [])
def pool (es : List (Nat × CpInfo)) (last : Nat) : Array CpInfo := ⟨poolList es last⟩
def fileOf (pool : Array CpInfo) (this : Nat) (attrs : Array Attribute := #[]) (ms : Array MethodInfo := #[]) (fl : Nat := 33) (sup : Nat := 0) (ifs : Array Nat := #[]) (fds : Array FieldInfo := #[]) : ClassFile where
  minorVersion := 0
  majorVersion := 65
  constantPool := pool
  accessFlags := fl
  thisClass := this
  superClass := sup
  interfaces := ifs
  fields := fds
  methods := ms
  attributes := attrs
def plain (name : String) (sup : Option ClassId) : Class where
  name := name
  kind := .ordinary
  loader := none
  accessFlags := 33
  super := sup
  interfaces := #[]
  cf := none
  fields := #[]
  methods := #[]
  instanceTypes := #[]
  staticTypes := #[]
  resolved := #[]
  callSites := []
  init := .initialized
  statics := none
  mirror := none

def pool0 : Array CpInfo := pool [(5, u "<init>"), (0, u "()V"), (1, .class_ 10), (1, u "java/lang/Object"), (85, u "clone"), (0, u "()Ljava/lang/Object;")] 26

def k0c0 : Code := { maxStack := 0, maxLocals := 1, code := object_method_1_code, exceptionTable := #[], attributes := #[] }
def k0m0 : Method := { name := "<init>", desc := "()V", sig := { parameters := [], returnType := none }, accessFlags := 1, code := some k0c0 }
def k0m1 : Method := { name := "clone", desc := "()Ljava/lang/Object;", sig := { parameters := [], returnType := some (.object "java/lang/Object") }, accessFlags := 260, code := none }
/-- java/lang/Object -/
def k0 : Class := { plain "java/lang/Object" none with
  accessFlags := 33
  interfaces := #[]
  cf := some (fileOf pool0 8 #[] #[{ accessFlags := 1, nameIndex := 5, descriptorIndex := 6, attributes := #[] }, { accessFlags := 260, nameIndex := 96, descriptorIndex := 97, attributes := #[] }] 33 0 #[] #[])
  fields := #[]
  methods := #[k0m0, k0m1]
  instanceTypes := #[]
  staticTypes := #[]
  resolved := Array.replicate 124 none
  statics := none }

def pool1 : Array CpInfo := pool [(2, .class_ 4), (1, u "java/lang/Object"), (0, u "<init>"), (0, u "()V"), (0, .integer 2147483647), (0, .class_ 9), (0, u "com/example/pathweave/pathweave/core/PairIndex"), (0, .methodref 8 11), (0, .nameAndType 5 12), (0, u "([I)V"), (0, .methodref 8 14), (0, .nameAndType 15 16), (0, u "pairsOf"), (0, u "([II[I)V"), (0, .class_ 18), (0, u "com/example/pathweave/pathweave/core/PairIndexPairsOfPinLaw"), (2, u "law"), (0, u "(IIIIII)Z")] 5

def k1m0 : Method := { name := "<init>", desc := "()V", sig := { parameters := [], returnType := none }, accessFlags := 1, code := none }
def k1c1 : Code := { maxStack := 4, maxLocals := 36, code := code, exceptionTable := #[], attributes := #[] }
def k1m1 : Method := { name := "law", desc := "(IIIIII)Z", sig := { parameters := [.int, .int, .int, .int, .int, .int], returnType := some .boolean }, accessFlags := 9, code := some k1c1 }
/-- com/example/pathweave/pathweave/core/PairIndexPairsOfPinLaw -/
def k1 : Class := { plain "com/example/pathweave/pathweave/core/PairIndexPairsOfPinLaw" (some 0) with
  accessFlags := 49
  interfaces := #[]
  cf := some (fileOf pool1 17 #[] #[{ accessFlags := 1, nameIndex := 5, descriptorIndex := 6, attributes := #[] }, { accessFlags := 9, nameIndex := 21, descriptorIndex := 22, attributes := #[] }] 49 2 #[] #[])
  fields := #[]
  methods := #[k1m0, k1m1]
  instanceTypes := #[]
  staticTypes := #[]
  resolved := Array.replicate 28 none
  statics := none }

def pool2 : Array CpInfo := pool [(1, .methodref 2 3), (0, .class_ 4), (0, .nameAndType 5 6), (0, u "java/lang/Object"), (0, u "<init>"), (0, u "()V"), (0, .methodref 8 9), (0, .class_ 10), (0, .nameAndType 11 12), (0, u "com/example/pathweave/pathweave/core/Pairwise"), (0, u "pairCount"), (0, u "([I)J"), (0, .long 10000000), (10, .methodref 25 26), (0, .class_ 27), (0, .nameAndType 28 29), (0, u "[I"), (0, u "clone"), (0, u "()Ljava/lang/Object;"), (0, .fieldref 31 32), (0, .class_ 33), (0, .nameAndType 34 27), (0, u "com/example/pathweave/pathweave/core/PairIndex"), (0, u "sizes"), (0, .fieldref 31 36), (0, .nameAndType 37 27), (0, u "sizesBefore"), (0, .fieldref 31 39), (0, .nameAndType 40 27), (0, u "rowStart"), (0, .fieldref 31 42), (0, .nameAndType 43 44), (0, u "count"), (0, u "I"), (5, .class_ 52), (1, u "com/example/pathweave/pathweave/core/PairIndex$Layout"), (15, u "([I)V"), (10, u "pairsOf"), (0, u "([II[I)V")] 23

def k2c0 : Code := { maxStack := 7, maxLocals := 5, code := prog_16_method_1_code, exceptionTable := #[], attributes := #[] }
def k2m0 : Method := { name := "<init>", desc := "([I)V", sig := { parameters := [(.array .int)], returnType := none }, accessFlags := 0, code := some k2c0 }
def k2c1 : Code := { maxStack := 6, maxLocals := 9, code := prog_16_method_8_code, exceptionTable := #[], attributes := #[] }
def k2m1 : Method := { name := "pairsOf", desc := "([II[I)V", sig := { parameters := [(.array .int), .int, (.array .int)], returnType := none }, accessFlags := 0, code := some k2c1 }
/-- com/example/pathweave/pathweave/core/PairIndex -/
def k2 : Class := { plain "com/example/pathweave/pathweave/core/PairIndex" (some 0) with
  accessFlags := 48
  interfaces := #[]
  cf := some (fileOf pool2 31 #[.nestMembers #[50]] #[{ accessFlags := 0, nameIndex := 5, descriptorIndex := 68, attributes := #[] }, { accessFlags := 0, nameIndex := 79, descriptorIndex := 80, attributes := #[] }] 48 2 #[] #[{ accessFlags := 18, nameIndex := 34, descriptorIndex := 27, attributes := #[] }, { accessFlags := 18, nameIndex := 37, descriptorIndex := 27, attributes := #[] }, { accessFlags := 18, nameIndex := 40, descriptorIndex := 27, attributes := #[] }, { accessFlags := 18, nameIndex := 43, descriptorIndex := 44, attributes := #[] }])
  fields := #[{ name := "sizes", type := (.array .int), accessFlags := 18, slot := 0, constantValue := 0 }, { name := "sizesBefore", type := (.array .int), accessFlags := 18, slot := 1, constantValue := 0 }, { name := "rowStart", type := (.array .int), accessFlags := 18, slot := 2, constantValue := 0 }, { name := "count", type := .int, accessFlags := 18, slot := 3, constantValue := 0 }]
  methods := #[k2m0, k2m1]
  instanceTypes := #[(.array .int), (.array .int), (.array .int), .int]
  staticTypes := #[]
  resolved := Array.replicate 104 none
  statics := none }

def pool3 : Array CpInfo := pool [(2, .class_ 4), (1, u "java/lang/Object"), (0, u "<init>"), (0, u "()V"), (0, .methodref 8 9), (0, .class_ 10), (0, .nameAndType 11 12), (0, u "java/lang/Math"), (0, u "multiplyExact"), (0, u "(JI)J"), (0, .methodref 8 14), (0, .nameAndType 15 16), (0, u "addExact"), (0, u "(JJ)J"), (4, .long 9223372036854775807), (60, .class_ 83), (0, u "com/example/pathweave/pathweave/core/Pairwise"), (0, u "DEFAULT_SEED"), (0, u "I"), (2, u "MAX_PAIRS"), (0, u "J"), (4, u "pairCount"), (0, u "([I)J")] 37

def k3m0 : Method := { name := "<init>", desc := "()V", sig := { parameters := [], returnType := none }, accessFlags := 2, code := none }
def k3c1 : Code := { maxStack := 5, maxLocals := 10, code := prog_19_method_2_code, exceptionTable := #[{ startPc := 29, endPc := 40, handlerPc := 43, catchType := 17 }], attributes := #[] }
def k3m1 : Method := { name := "pairCount", desc := "([I)J", sig := { parameters := [(.array .int)], returnType := some .long }, accessFlags := 9, code := some k3c1 }
/-- com/example/pathweave/pathweave/core/Pairwise -/
def k3 : Class := { plain "com/example/pathweave/pathweave/core/Pairwise" (some 0) with
  accessFlags := 49
  interfaces := #[]
  cf := some (fileOf pool3 82 #[] #[{ accessFlags := 2, nameIndex := 5, descriptorIndex := 6, attributes := #[] }, { accessFlags := 9, nameIndex := 94, descriptorIndex := 95, attributes := #[] }] 49 2 #[] #[{ accessFlags := 25, nameIndex := 84, descriptorIndex := 85, attributes := #[] }, { accessFlags := 25, nameIndex := 88, descriptorIndex := 89, attributes := #[] }])
  fields := #[{ name := "DEFAULT_SEED", type := .int, accessFlags := 25, slot := 0, constantValue := 0 }, { name := "MAX_PAIRS", type := .long, accessFlags := 25, slot := 1, constantValue := 0 }]
  methods := #[k3m0, k3m1]
  instanceTypes := #[]
  staticTypes := #[.int, .long]
  resolved := Array.replicate 133 none
  statics := none }

def pool4 : Array CpInfo := pool [(1, .class_ 2), (0, u "java/lang/Math"), (1, .class_ 6), (1, u "java/lang/Object"), (0, u "<init>"), (0, u "()V"), (89, .class_ 100), (1, u "java/lang/Math$RandomNumberGeneratorHolder"), (17, .methodref 1 119), (0, .nameAndType 120 121), (0, u "multiplyExact"), (0, u "(JJ)J"), (0, .methodref 1 123), (0, .nameAndType 124 125), (0, u "abs"), (0, u "(J)J"), (46, u "negativeZeroFloatBits"), (0, u "J"), (2, u "negativeZeroDoubleBits"), (68, u "$assertionsDisabled"), (0, u "Z"), (91, u "twoToTheDoubleScaleDown"), (0, u "D"), (4, u "twoToTheDoubleScaleUp"), (9, u "E"), (3, u "PI"), (2, u "TAU"), (2, u "DEGREES_TO_RADIANS"), (0, u "RADIANS_TO_DEGREES"), (27, u "addExact"), (1, u "(JI)J")] 64

def k4m0 : Method := { name := "<init>", desc := "()V", sig := { parameters := [], returnType := none }, accessFlags := 2, code := none }
def k4c1 : Code := { maxStack := 6, maxLocals := 6, code := jdk_29_method_25_code, exceptionTable := #[], attributes := #[] }
def k4m1 : Method := { name := "addExact", desc := "(JJ)J", sig := { parameters := [.long, .long], returnType := some .long }, accessFlags := 9, code := some k4c1 }
def k4c2 : Code := { maxStack := 4, maxLocals := 3, code := jdk_29_method_29_code, exceptionTable := #[], attributes := #[] }
def k4m2 : Method := { name := "multiplyExact", desc := "(JI)J", sig := { parameters := [.long, .int], returnType := some .long }, accessFlags := 9, code := some k4c2 }
def k4c3 : Code := { maxStack := 4, maxLocals := 10, code := jdk_29_method_30_code, exceptionTable := #[], attributes := #[] }
def k4m3 : Method := { name := "multiplyExact", desc := "(JJ)J", sig := { parameters := [.long, .long], returnType := some .long }, accessFlags := 9, code := some k4c3 }
def k4c4 : Code := { maxStack := 4, maxLocals := 2, code := jdk_29_method_61_code, exceptionTable := #[], attributes := #[] }
def k4m4 : Method := { name := "abs", desc := "(J)J", sig := { parameters := [.long], returnType := some .long }, accessFlags := 9, code := some k4c4 }
/-- java/lang/Math -/
def k4 : Class := { plain "java/lang/Math" (some 0) with
  accessFlags := 49
  interfaces := #[]
  cf := some (fileOf pool4 1 #[.nestMembers #[98]] #[{ accessFlags := 2, nameIndex := 7, descriptorIndex := 8, attributes := #[] }, { accessFlags := 9, nameIndex := 393, descriptorIndex := 121, attributes := #[] }, { accessFlags := 9, nameIndex := 120, descriptorIndex := 395, attributes := #[] }, { accessFlags := 9, nameIndex := 120, descriptorIndex := 121, attributes := #[] }, { accessFlags := 9, nameIndex := 124, descriptorIndex := 125, attributes := #[] }] 49 4 #[] #[{ accessFlags := 25, nameIndex := 354, descriptorIndex := 339, attributes := #[] }, { accessFlags := 25, nameIndex := 358, descriptorIndex := 339, attributes := #[] }, { accessFlags := 25, nameIndex := 361, descriptorIndex := 339, attributes := #[] }, { accessFlags := 26, nameIndex := 364, descriptorIndex := 339, attributes := #[] }, { accessFlags := 26, nameIndex := 365, descriptorIndex := 339, attributes := #[] }, { accessFlags := 26, nameIndex := 172, descriptorIndex := 173, attributes := #[] }, { accessFlags := 26, nameIndex := 176, descriptorIndex := 173, attributes := #[] }, { accessFlags := 8, nameIndex := 344, descriptorIndex := 339, attributes := #[] }, { accessFlags := 8, nameIndex := 338, descriptorIndex := 339, attributes := #[] }, { accessFlags := 4120, nameIndex := 245, descriptorIndex := 246, attributes := #[] }])
  fields := #[{ name := "E", type := .double, accessFlags := 25, slot := 0, constantValue := 0 }, { name := "PI", type := .double, accessFlags := 25, slot := 1, constantValue := 0 }, { name := "TAU", type := .double, accessFlags := 25, slot := 2, constantValue := 0 }, { name := "DEGREES_TO_RADIANS", type := .double, accessFlags := 26, slot := 3, constantValue := 0 }, { name := "RADIANS_TO_DEGREES", type := .double, accessFlags := 26, slot := 4, constantValue := 0 }, { name := "negativeZeroFloatBits", type := .long, accessFlags := 26, slot := 5, constantValue := 0 }, { name := "negativeZeroDoubleBits", type := .long, accessFlags := 26, slot := 6, constantValue := 0 }, { name := "twoToTheDoubleScaleUp", type := .double, accessFlags := 8, slot := 7, constantValue := 0 }, { name := "twoToTheDoubleScaleDown", type := .double, accessFlags := 8, slot := 8, constantValue := 0 }, { name := "$assertionsDisabled", type := .boolean, accessFlags := 4120, slot := 9, constantValue := 0 }]
  methods := #[k4m0, k4m1, k4m2, k4m3, k4m4]
  instanceTypes := #[]
  staticTypes := #[.double, .double, .double, .double, .double, .long, .long, .double, .double, .boolean]
  resolved := Array.replicate 460 none
  statics := none }

def pool5 : Array CpInfo := pool [(1, .class_ 2), (0, u "java/lang/Cloneable"), (0, .class_ 4), (0, u "java/lang/Object")] 2

/-- java/lang/Cloneable -/
def k5 : Class := { plain "java/lang/Cloneable" (some 0) with
  accessFlags := 1537
  interfaces := #[]
  cf := some (fileOf pool5 1 #[] #[] 1537 3 #[] #[])
  fields := #[]
  methods := #[]
  instanceTypes := #[]
  staticTypes := #[]
  resolved := Array.replicate 7 none
  statics := none }

def pool6 : Array CpInfo := pool [(1, u "java/io/Serializable"), (0, .class_ 1), (0, u "java/lang/Object"), (0, .class_ 3)] 3

/-- java/io/Serializable -/
def k6 : Class := { plain "java/io/Serializable" (some 0) with
  accessFlags := 1537
  interfaces := #[]
  cf := some (fileOf pool6 2 #[] #[] 1537 4 #[] #[])
  fields := #[]
  methods := #[]
  instanceTypes := #[]
  staticTypes := #[]
  resolved := Array.replicate 8 none
  statics := none }

/-- the primitive byte -/
def k7 : Class := { plain "byte" none with kind := .primitive 'B', accessFlags := 0x411 }
/-- [B -/
def k8 : Class := { plain "[B" (some 0) with kind := .array 7 .byte, interfaces := #[5, 6], accessFlags := 1041 }

/-- the primitive int -/
def k9 : Class := { plain "int" none with kind := .primitive 'I', accessFlags := 0x411 }
/-- [I -/
def k10 : Class := { plain "[I" (some 0) with kind := .array 9 .int, interfaces := #[5, 6], accessFlags := 1041 }

def heap : Heap := #[]
def classes : Array Class := #[k0, k1, k2, k3, k4, k5, k6, k7, k8, k9, k10]
def interned : List (Array UInt16 × Addr) := []
def slotsUsed : Nat := 0
def theMethod : MethodId := ⟨1, 1⟩
def args0 : Array Value := #[.int 5, .int 5, .int 5, .int 5, .int 5, .int 5]
def aboutOver (below : List Frame) : State where
  vm := { classes := classes, interned := interned.toArray }
  heap := heap
  slotsUsed := slotsUsed
  threads := #[{ frames := .invoking theMethod args0 :: below }]
def below0 : List Frame := [.native { method := ⟨0, 0⟩, args := #[] }]
def about1 : State := aboutOver below0
def p0 : Program := .bare "" "" ""
def e0 : Env := launch0.env 0 0 0
theorem w_frames : about1.frames = Frame.invoking theMethod args0 :: below0 := rfl
set_option maxRecDepth 65536 in
theorem w_args : argsFit about1.vm theMethod args0 = true := by decide +kernel
set_option maxRecDepth 65536 in
theorem w_heap : heapFits about1 = true := by decide +kernel
set_option maxRecDepth 65536 in
theorem w_runnable : about1.curStatus? = some .runnable := by decide +kernel
set_option maxRecDepth 65536 in
theorem w_alone : about1.alone = true := by decide +kernel
set_option maxRecDepth 65536 in
theorem w_named : about1.methodNamed? x = some theMethod := by decide +kernel
set_option maxRecDepth 65536 in
theorem w_hears : about1.hears theMethod below0 = true := by decide +kernel
set_option maxRecDepth 65536 in
theorem w_ripe : about1.ripe theMethod args0 below0 = true := by decide +kernel
theorem w_running : about1.status = .running := rfl
set_option maxRecDepth 65536 in
theorem w_room : about1.hasRoom e0.platform room_1 = true :=
  launch0.hasRoom_least _ room_1 (by decide +kernel) (by decide +kernel) (by decide +kernel) (by decide +kernel) (by decide +kernel) (by decide +kernel)
theorem allAtoms_all (ts : List Jvm.Cond) (a : Array Jvm.Value) (st : Jvm.State) : (allAtoms ts).before a st = ts.all (fun c => c.before a st) := by
  induction ts with
  | nil => rfl
  | cons c t ih =>
    show (Jvm.Cond.and c (allAtoms t)).before a st = _
    rw [Jvm.Cond.before_and, ih, List.all_cons]
def words1 : List Jvm.Cond := Jvm.Cond.code x code maxLocals ret :: tables_1
/-- a 'code' word, met by the world's own term for the bytes: nothing is compared byte by byte -/
theorem code_word {y : MethodName} {bytes : ByteArray} {mx : Nat} {rt : Option FieldType} {a : Array Value} {s : State} {m : MethodId} {meth : Method} {c : Code} (h1 : s.methodNamed? y = some m) (h2 : s.vm.method? m = some meth) (h3 : meth.code = some c) (h4 : c.code = bytes)
    (h5 : (c.maxLocals == mx && c.exceptionTable.isEmpty && decide (c.maxStack ≤ mostOperands) && decide (meth.sig.returnType = rt) && !meth.locks && decide (parseMethodDescriptor y.desc = some meth.sig)) = true) : (Jvm.Cond.code y bytes mx rt).before a s = true := by
  simp only [Bool.and_eq_true, beq_iff_eq, Bool.not_eq_true', decide_eq_true_eq] at h5
  obtain ⟨⟨⟨⟨⟨g1, g2⟩, g3⟩, g4⟩, g5⟩, g6⟩ := h5
  simp [Cond.before, Cond.holds, Cond.value, h1, h2, h3, h4, g1, g2, g3, g4, g5, g6]
def isCode : Jvm.Cond → Bool
  | .code _ _ _ _ => true
  | _ => false
theorem all_split {L : List Jvm.Cond} {P : Jvm.Cond → Bool} (h1 : L.all (fun c => isCode c || P c) = true) (h2 : ∀ c ∈ L.filter isCode, P c = true) : L.all P = true := by
  refine List.all_eq_true.mpr fun c hc => ?_
  have h := List.all_eq_true.mp h1 c hc
  rcases Bool.eq_false_or_eq_true (isCode c) with hi | hi
  · exact h2 c (List.mem_filter.mpr ⟨hc, hi⟩)
  · simpa [hi] using h
set_option maxRecDepth 65536 in
theorem w_c0 : (Jvm.Cond.code x code maxLocals ret).before args0 about1 = true := code_word (m := ⟨1, 1⟩) (meth := k1m1) (c := k1c1) (by decide +kernel) rfl rfl rfl (by decide +kernel)
set_option maxRecDepth 65536 in
theorem w_c1 : (Jvm.Cond.code ({ cls := "com/example/pathweave/pathweave/core/PairIndex", name := "<init>", desc := "([I)V" } : Jvm.MethodName) prog_16_method_1_code (5 : Nat) (Option.none : Option Jvm.ClassFile.FieldType)).before args0 about1 = true := code_word (m := ⟨2, 0⟩) (meth := k2m0) (c := k2c0) (by decide +kernel) rfl rfl rfl (by decide +kernel)
set_option maxRecDepth 65536 in
theorem w_c2 : (Jvm.Cond.code ({ cls := "java/lang/Object", name := "<init>", desc := "()V" } : Jvm.MethodName) object_method_1_code (1 : Nat) (Option.none : Option Jvm.ClassFile.FieldType)).before args0 about1 = true := code_word (m := ⟨0, 0⟩) (meth := k0m0) (c := k0c0) (by decide +kernel) rfl rfl rfl (by decide +kernel)
set_option maxRecDepth 65536 in
theorem w_c3 : (Jvm.Cond.code ({ cls := "java/lang/Math", name := "multiplyExact", desc := "(JI)J" } : Jvm.MethodName) jdk_29_method_29_code (3 : Nat) (Option.some Jvm.ClassFile.FieldType.long)).before args0 about1 = true := code_word (m := ⟨4, 2⟩) (meth := k4m2) (c := k4c2) (by decide +kernel) rfl rfl rfl (by decide +kernel)
set_option maxRecDepth 65536 in
theorem w_c4 : (Jvm.Cond.code ({ cls := "java/lang/Math", name := "multiplyExact", desc := "(JJ)J" } : Jvm.MethodName) jdk_29_method_30_code (10 : Nat) (Option.some Jvm.ClassFile.FieldType.long)).before args0 about1 = true := code_word (m := ⟨4, 3⟩) (meth := k4m3) (c := k4c3) (by decide +kernel) rfl rfl rfl (by decide +kernel)
set_option maxRecDepth 65536 in
theorem w_c5 : (Jvm.Cond.code ({ cls := "java/lang/Math", name := "abs", desc := "(J)J" } : Jvm.MethodName) jdk_29_method_61_code (2 : Nat) (Option.some Jvm.ClassFile.FieldType.long)).before args0 about1 = true := code_word (m := ⟨4, 4⟩) (meth := k4m4) (c := k4c4) (by decide +kernel) rfl rfl rfl (by decide +kernel)
set_option maxRecDepth 65536 in
theorem w_c6 : (Jvm.Cond.code ({ cls := "java/lang/Math", name := "addExact", desc := "(JJ)J" } : Jvm.MethodName) jdk_29_method_25_code (6 : Nat) (Option.some Jvm.ClassFile.FieldType.long)).before args0 about1 = true := code_word (m := ⟨4, 1⟩) (meth := k4m1) (c := k4c1) (by decide +kernel) rfl rfl rfl (by decide +kernel)
set_option maxRecDepth 65536 in
theorem w_c7 : (Jvm.Cond.code ({ cls := "com/example/pathweave/pathweave/core/PairIndex", name := "pairsOf", desc := "([II[I)V" } : Jvm.MethodName) prog_16_method_8_code (9 : Nat) (Option.none : Option Jvm.ClassFile.FieldType)).before args0 about1 = true := code_word (m := ⟨2, 1⟩) (meth := k2m1) (c := k2c1) (by decide +kernel) rfl rfl rfl (by decide +kernel)
def codes1 : List Jvm.Cond := [Jvm.Cond.code x code maxLocals ret, Jvm.Cond.code ({ cls := "com/example/pathweave/pathweave/core/PairIndex", name := "<init>", desc := "([I)V" } : Jvm.MethodName) prog_16_method_1_code (5 : Nat) (Option.none : Option Jvm.ClassFile.FieldType), Jvm.Cond.code ({ cls := "java/lang/Object", name := "<init>", desc := "()V" } : Jvm.MethodName) object_method_1_code (1 : Nat) (Option.none : Option Jvm.ClassFile.FieldType), Jvm.Cond.code ({ cls := "java/lang/Math", name := "multiplyExact", desc := "(JI)J" } : Jvm.MethodName) jdk_29_method_29_code (3 : Nat) (Option.some Jvm.ClassFile.FieldType.long), Jvm.Cond.code ({ cls := "java/lang/Math", name := "multiplyExact", desc := "(JJ)J" } : Jvm.MethodName) jdk_29_method_30_code (10 : Nat) (Option.some Jvm.ClassFile.FieldType.long), Jvm.Cond.code ({ cls := "java/lang/Math", name := "abs", desc := "(J)J" } : Jvm.MethodName) jdk_29_method_61_code (2 : Nat) (Option.some Jvm.ClassFile.FieldType.long), Jvm.Cond.code ({ cls := "java/lang/Math", name := "addExact", desc := "(JJ)J" } : Jvm.MethodName) jdk_29_method_25_code (6 : Nat) (Option.some Jvm.ClassFile.FieldType.long), Jvm.Cond.code ({ cls := "com/example/pathweave/pathweave/core/PairIndex", name := "pairsOf", desc := "([II[I)V" } : Jvm.MethodName) prog_16_method_8_code (9 : Nat) (Option.none : Option Jvm.ClassFile.FieldType)]
set_option maxRecDepth 65536 in
theorem codes_eq : words1.filter isCode = codes1 := rfl
theorem w_codes : ∀ c ∈ words1.filter isCode, c.before args0 about1 = true := by
  rw [codes_eq]
  intro c hc
  simp only [codes1, List.mem_cons, List.not_mem_nil, or_false] at hc
  rcases hc with rfl | rfl | rfl | rfl | rfl | rfl | rfl | rfl
  · exact w_c0
  · exact w_c1
  · exact w_c2
  · exact w_c3
  · exact w_c4
  · exact w_c5
  · exact w_c6
  · exact w_c7
set_option maxRecDepth 65536 in
theorem w_t1 : (words1.take 24).all (fun c => isCode c || c.before args0 about1) = true := by decide +kernel
set_option maxRecDepth 65536 in
theorem w_t2 : ((words1.drop 24).take 24).all (fun c => isCode c || c.before args0 about1) = true := by decide +kernel
set_option maxRecDepth 65536 in
theorem w_t3 : ((words1.drop 24).drop 24).all (fun c => isCode c || c.before args0 about1) = true := by decide +kernel
theorem w_tables : (allAtoms (Jvm.Cond.code x code maxLocals ret :: tables_1)).before args0 about1 = true := by
  rw [allAtoms_all]
  show words1.all (fun c => c.before args0 about1) = true
  refine all_split ?_ w_codes
  rw [← List.take_append_drop 24 words1, List.all_append, w_t1, ← List.take_append_drop 24 (words1.drop 24), List.all_append, w_t2, w_t3]
  rfl
set_option maxRecDepth 65536 in
theorem w_case : (Jvm.Cond.and given_1 narrow_1).before args0 about1 = true := by decide +kernel
theorem w_applies : (headSpec (Jvm.Cond.code x code maxLocals ret :: tables_1) room_1).applies x e0.platform about1 = true :=
  (Spec.applies_iff w_frames).mpr ⟨w_running, w_runnable, w_alone, w_named, w_hears, w_ripe, w_room, w_tables⟩
theorem atStart : AtStart classFile x code maxLocals ret World_1 tables_1 room_1 Calls_1 rest_1 Pre_1 launch0 p0 e0 about1 theMethod args0 below0 :=
  ⟨lists_1, trivial, launch0.admits_env _ _ _, launch0.least_env, fairChoices_fair.cas, fairChoices_fair.clock, w_frames, w_args, w_heap, w_applies, trivial, trivial, w_case⟩
end start1
theorem witness_1 : WitnessClaimed_1 := ⟨start1.p0, start1.e0, start1.about1, start1.theMethod, start1.args0, start1.below0, start1.atStart⟩
end Jvm.Pilot.@@N@@
