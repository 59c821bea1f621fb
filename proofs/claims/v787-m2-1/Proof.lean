import JvmDerived
import JvmDerived.Pilot.@@N@@Statement
import JvmDerived.Pilot.@@N@@Code
set_option linter.unusedVariables false
set_option linter.unusedSimpArgs false

namespace Jvm.Pilot.@@N@@
open Jvm Jvm.ClassFile Sem Op Lib Jvm.Free Jvm.Stand Jvm.LawKit Jvm.RoadKit Bundle Jvm.Pilot.@@N@@.Jvm.D
/-! 1. the goal of a walk, and its steps -/
section OwnGoal
variable {p : Program} {l : Launch} {e : Env} {R : Room} {s : State} {m : MethodId} {args : Array Value} {below : List Frame} {meth : Method} {c : Code} {T : State} {locs : List Loc} {cells slots : Nat}
/-- from the state S the body returns, P holds of what it leaves, and the frame is kept -/
def Gl (p : Program) (e : Env) (below : List Frame) (s : State) (kc ks : Nat) (P : Option Value → Heap → List Loc → Prop) (S : State) : Prop :=
  ∃ t o, Steps p.tables e below S t ∧ t.status = .running ∧ Ended t below o ∧ ∃ v L, o = .returned v ∧ P v t.heap L ∧ FrameEnd s o t L kc ks
variable {kc ks : Nat} {P : Option Value → Heap → List Loc → Prop}
theorem Gl.on {A B : State} (h : ∀ t, Steps p.tables e below B t → Steps p.tables e below A t) (k : Gl p e below s kc ks P B) : Gl p e below s kc ks P A := by
  obtain ⟨t, o, h1, h2⟩ := k
  exact ⟨t, o, h t h1, h2⟩
theorem own_to {tb : Tables} {A B t : State} (q : A = B) (k : Steps tb e below B t) : Steps tb e below A t := q ▸ k
theorem Gl.out (X : Stand p l e R s m args below meth c T locs cells slots) (hx : p.tables.exec = Jvm.exec) (hlk : meth.locks = false) {pc : Nat} {Ls : Array Slot} {w : Value} {t : FieldType} {i : Instr} {rest : List Value} (hret : meth.sig.returnType = some t) (hn : narrow t w = w)
    (hi : (i = .ireturn ∧ (t = .int ∨ t = .boolean ∨ t = .byte ∨ t = .char ∨ t = .short) ∧ ∃ z, w = .int z) ∨ (i = .lreturn ∧ t = .long ∧ ∃ z, w = .long z) ∨ (i = .dreturn ∧ t = .double ∧ ∃ z, w = .double z) ∨ (i = .freturn ∧ t = .float ∧ ∃ z, w = .float z) ∨ (i = .areturn ∧ t.isReference = true ∧ w.isRef = true))
    (hd : decode c.code pc = .ok (i, 1)) (hP : P (some w) T.heap locs) (hc : cells ≤ kc) (hs : slots ≤ ks) : Gl p e below s kc ks P (T.setTop (mkF m pc Ls (w :: rest))) := by
  obtain ⟨fs, hr, hrun, hended, hW, hsame⟩ := X.leave (v := some w) (fun h => by rw [hret] at h; cases h) hlk
  exact ⟨_, _, retOut X hx hret hn hi hd hr, hrun, hended, _, _, rfl, hP, ⟨_, rfl⟩, hW, hsame.mono hc hs⟩
theorem Gl.outI (X : Stand p l e R s m args below meth c T locs cells slots) (hx : p.tables.exec = Jvm.exec) (hlk : meth.locks = false) {pc : Nat} {Ls : Array Slot} {z : Int32} {rest : List Value} (hret : meth.sig.returnType = some .int)
    (hd : decode c.code pc = .ok (.ireturn, 1)) (hP : P (some (.int z)) T.heap locs) (hc : cells ≤ kc) (hs : slots ≤ ks) : Gl p e below s kc ks P (T.setTop (mkF m pc Ls (.int z :: rest))) :=
  Gl.out X hx hlk hret rfl (Or.inl ⟨rfl, Or.inl rfl, z, rfl⟩) hd hP hc hs
theorem Gl.outJ (X : Stand p l e R s m args below meth c T locs cells slots) (hx : p.tables.exec = Jvm.exec) (hlk : meth.locks = false) {pc : Nat} {Ls : Array Slot} {z : Int64} {rest : List Value} (hret : meth.sig.returnType = some .long)
    (hd : decode c.code pc = .ok (.lreturn, 1)) (hP : P (some (.long z)) T.heap locs) (hc : cells ≤ kc) (hs : slots ≤ ks) : Gl p e below s kc ks P (T.setTop (mkF m pc Ls (.long z :: rest))) :=
  Gl.out X hx hlk hret rfl (Or.inr (Or.inl ⟨rfl, rfl, z, rfl⟩)) hd hP hc hs
theorem Gl.outR (X : Stand p l e R s m args below meth c T locs cells slots) (hx : p.tables.exec = Jvm.exec) (hlk : meth.locks = false) {pc : Nat} {Ls : Array Slot} {a : Addr} {t : FieldType} {rest : List Value} (hret : meth.sig.returnType = some t) (ht : t.isReference = true)
    (hd : decode c.code pc = .ok (.areturn, 1)) (hP : P (some (.ref a)) T.heap locs) (hc : cells ≤ kc) (hs : slots ≤ ks) : Gl p e below s kc ks P (T.setTop (mkF m pc Ls (.ref a :: rest))) :=
  Gl.out X hx hlk hret (by cases t <;> first | rfl | cases ht) (Or.inr (Or.inr (Or.inr (Or.inr ⟨rfl, ht, rfl⟩)))) hd hP hc hs
theorem Gl.outN (X : Stand p l e R s m args below meth c T locs cells slots) (hx : p.tables.exec = Jvm.exec) (hlk : meth.locks = false) {pc : Nat} {Ls : Array Slot} {z : Int32} {t : FieldType} {rest : List Value} (hret : meth.sig.returnType = some t) (ht : t = .boolean ∨ t = .byte ∨ t = .char ∨ t = .short)
    (hd : decode c.code pc = .ok (.ireturn, 1)) (hP : P (some (.int (nar t z))) T.heap locs) (hc : cells ≤ kc) (hs : slots ≤ ks) : Gl p e below s kc ks P (T.setTop (mkF m pc Ls (.int z :: rest))) := by
  obtain ⟨fs, hr, hrun, hended, hW, hsame⟩ := X.leave (v := some (.int (nar t z))) (fun h => by rw [hret] at h; cases h) hlk
  exact ⟨_, _, retN X hx hret ht hd hr, hrun, hended, _, _, rfl, hP, ⟨_, rfl⟩, hW, hsame.mono hc hs⟩
theorem Gl.outV (X : Stand p l e R s m args below meth c T locs cells slots) (hx : p.tables.exec = Jvm.exec) (hlk : meth.locks = false) {pc : Nat} {Ls : Array Slot} (hret : meth.sig.returnType = none)
    (hd : decode c.code pc = .ok (.return_, 1)) (hP : P none T.heap locs) (hc : cells ≤ kc) (hs : slots ≤ ks) : Gl p e below s kc ks P (T.setTop (mkF m pc Ls [])) := by
  obtain ⟨fs, hr, hrun, hended, hW, hsame⟩ := X.leave (v := none) (fun _ => rfl) hlk
  exact ⟨_, _, X.returnOut hx hret hd hr, hrun, hended, _, _, rfl, hP, ⟨_, rfl⟩, hW, hsame.mono hc hs⟩
end OwnGoal
/-- two slots: both empty, or a long -/
def Two (a b : Slot) : Prop := (a = .unset ∧ b = .unset) ∨ ∃ z : Int64, a = .val (.long z) ∧ b = .second
theorem own_inj {α β : Type} {a b : α} {c d : β} (h : some (a, c) = some (b, d)) : a = b ∧ c = d := by cases h; exact ⟨rfl, rfl⟩
theorem own_inj1 {α : Type} {a b : α} (h : some a = some b) : a = b := by cases h; rfl
def own_let {α β : Type} (a : α) (f : α → β) : β := f a
theorem own_letE {α β : Type} {a : α} {f : α → β} {b : β} (h : own_let a f = b) : ∃ x, a = x ∧ f x = b := ⟨a, rfl, h⟩
theorem own_bind {α β : Type} {o : Option α} {f : α → Option β} {b : β} (h : o.bind f = some b) : ∃ x, o = some x ∧ f x = some b := by
  cases o with
  | none => cases h
  | some x => exact ⟨x, rfl, h⟩
/-! 2. what the law has made: a list of objects, each with its kind and its values; a reference is a place in that list -/
abbrev Hp := List (Nat × List Value)
abbrev Kt := Nat → FieldType × List (String × String)
def sh (n0 : Nat) : Value → Value
  | .ref k => .ref (n0 + k)
  | v => v
def gV (D : Hp) (a t i : Nat) : Option Value := (D[a]?).bind fun ob => if ob.1 = t then ob.2[i]? else none
def asI : Value → Option Int32
  | .int x => some x
  | _ => none
def asJ : Value → Option Int64
  | .long x => some x
  | _ => none
def asR : Value → Option Nat
  | .ref x => some x
  | _ => none
def gI (D : Hp) (a t i : Nat) : Option Int32 := (gV D a t i).bind asI
def gJ (D : Hp) (a t i : Nat) : Option Int64 := (gV D a t i).bind asJ
def gR (D : Hp) (a t i : Nat) : Option Nat := (gV D a t i).bind asR
def ck (D : Hp) (a t : Nat) : Option Nat := (D[a]?).bind fun ob => if ob.1 = t then some t else none
def pV (D : Hp) (a t i : Nat) (v : Value) : Option Hp := (D[a]?).bind fun ob => if ob.1 = t then (if i < ob.2.length then some (D.set a (t, ob.2.set i v)) else none) else none
def rV (D : Hp) (a t : Nat) (j : Int32) : Option Value := (D[a]?).bind fun ob => if ob.1 = t then (if j < 0 then none else ob.2[j.toNatClampNeg]?) else none
def rI (D : Hp) (a t : Nat) (j : Int32) : Option Int32 := (rV D a t j).bind asI
def rJ (D : Hp) (a t : Nat) (j : Int32) : Option Int64 := (rV D a t j).bind asJ
def wV (D : Hp) (a t : Nat) (j : Int32) (v : Value) : Option Hp := (D[a]?).bind fun ob => if ob.1 = t then (if j < 0 then none else if j.toNatClampNeg < ob.2.length then some (D.set a (t, ob.2.set j.toNatClampNeg v)) else none) else none
def lA (D : Hp) (a t : Nat) : Option Int32 := (D[a]?).bind fun ob => if ob.1 = t then some ob.2.length.toInt32 else none
def nA (D : Hp) (t : Nat) (n : Int32) (cap : Nat) (z : Value) : Option Hp := if n < 0 then none else if n.toNatClampNeg ≤ cap then some (D ++ [(t, List.replicate n.toNatClampNeg z)]) else none
def cA' (D : Hp) (a t cap : Nat) : Option Hp := (D[a]?).bind fun ob => if ob.1 = t then (if ob.2.length ≤ cap then some (D ++ [(t, ob.2)]) else none) else none
def Ob1 (K : Kt) (Z : State) (h : Heap) (n0 a t : Nat) (vs : List Value) : Prop :=
  (∀ ty, (K t).1 = .array ty → Exa Z h a ("[" ++ ty.toString) ∧ ∃ c : Cell, Arr Z h a c ty ∧ c.slots = (vs.map (sh n0)).toArray ∧ vs.length < 2 ^ 31 ∧ ∀ v ∈ vs, fits ty v = true) ∧
  (∀ C, (K t).1 = .object C → Exa Z h a C ∧ ∀ (i : Nat) (f d : String), (K t).2[i]? = some (f, d) → ∃ v : Value, vs[i]? = some v ∧ Fld Z h a C f d (sh n0 v))
def Ow (K : Kt) (Z : State) (h : Heap) (n0 : Nat) (D : Hp) : Prop := h.size = n0 + D.length ∧ ∀ (k t : Nat) (vs : List Value), D[k]? = some (t, vs) → Ob1 K Z h n0 (n0 + k) t vs
def Lay (K : Kt) (Z : State) (a0 : Array Value) : Prop := ∀ t C, (K t).1 = .object C → (∀ q ∈ (K t).2, Laid Z a0 C C q.1 q.2 ∧ ∃ ty, parseFieldDescriptor q.2 = some ty) ∧ ((K t).2.map Prod.fst).Nodup
section OwnHeap
variable {K : Kt} {Z : State} {h h' : Heap} {n0 : Nat} {D D' : Hp} {a t i : Nat} {v : Value} {j : Int32} {C f d : String} {ty : FieldType}
theorem gV_e (hg : gV D a t i = some v) : ∃ vs, D[a]? = some (t, vs) ∧ vs[i]? = some v := by
  obtain ⟨⟨t', vs⟩, h1, h2⟩ := own_bind hg
  by_cases q : t' = t
  · subst q; rw [if_pos rfl] at h2; exact ⟨vs, h1, h2⟩
  · rw [if_neg q] at h2; cases h2
theorem gI_e {x : Int32} (hg : gI D a t i = some x) : gV D a t i = some (.int x) := by
  obtain ⟨w, h1, h2⟩ := own_bind hg
  cases w <;> cases h2; exact h1
theorem gJ_e {x : Int64} (hg : gJ D a t i = some x) : gV D a t i = some (.long x) := by
  obtain ⟨w, h1, h2⟩ := own_bind hg
  cases w <;> cases h2; exact h1
theorem gR_e {x : Nat} (hg : gR D a t i = some x) : gV D a t i = some (.ref x) := by
  obtain ⟨w, h1, h2⟩ := own_bind hg
  cases w <;> cases h2; exact h1
theorem ck_e {q : Nat} (hg : ck D a t = some q) : ∃ vs, D[a]? = some (t, vs) := by
  obtain ⟨⟨t', vs⟩, h1, h2⟩ := own_bind hg
  by_cases q : t' = t
  · subst q; exact ⟨vs, h1⟩
  · rw [if_neg q] at h2; cases h2
theorem rV_e (hg : rV D a t j = some v) : ∃ vs, D[a]? = some (t, vs) ∧ ¬ j < 0 ∧ vs[j.toNatClampNeg]? = some v := by
  obtain ⟨⟨t', vs⟩, h1, h2⟩ := own_bind hg
  by_cases q : t' = t
  · subst q; rw [if_pos rfl] at h2
    by_cases r : j < 0
    · rw [if_pos r] at h2; cases h2
    · rw [if_neg r] at h2; exact ⟨vs, h1, r, h2⟩
  · rw [if_neg q] at h2; cases h2
theorem rI_e {x : Int32} (hg : rI D a t j = some x) : rV D a t j = some (.int x) := by
  obtain ⟨w, h1, h2⟩ := own_bind hg
  cases w <;> cases h2; exact h1
theorem rJ_e {x : Int64} (hg : rJ D a t j = some x) : rV D a t j = some (.long x) := by
  obtain ⟨w, h1, h2⟩ := own_bind hg
  cases w <;> cases h2; exact h1
theorem wV_e (hg : wV D a t j v = some D') : ∃ vs, D[a]? = some (t, vs) ∧ ¬ j < 0 ∧ j.toNatClampNeg < vs.length ∧ D' = D.set a (t, vs.set j.toNatClampNeg v) := by
  obtain ⟨⟨t', vs⟩, h1, h2⟩ := own_bind hg
  by_cases q : t' = t
  · subst q; rw [if_pos rfl] at h2
    by_cases r : j < 0
    · rw [if_pos r] at h2; cases h2
    · rw [if_neg r] at h2
      by_cases u : j.toNatClampNeg < vs.length
      · rw [if_pos u] at h2; cases h2; exact ⟨vs, h1, r, u, rfl⟩
      · rw [if_neg u] at h2; cases h2
  · rw [if_neg q] at h2; cases h2
theorem pV_e (hg : pV D a t i v = some D') : ∃ vs, D[a]? = some (t, vs) ∧ i < vs.length ∧ D' = D.set a (t, vs.set i v) := by
  obtain ⟨⟨t', vs⟩, h1, h2⟩ := own_bind hg
  by_cases q : t' = t
  · subst q; rw [if_pos rfl] at h2
    by_cases u : i < vs.length
    · rw [if_pos u] at h2; cases h2; exact ⟨vs, h1, u, rfl⟩
    · rw [if_neg u] at h2; cases h2
  · rw [if_neg q] at h2; cases h2
theorem cA_e {cap : Nat} (hg : cA' D a t cap = some D') : ∃ vs, D[a]? = some (t, vs) ∧ vs.length ≤ cap ∧ D' = D ++ [(t, vs)] := by
  obtain ⟨⟨t', vs⟩, h1, h2⟩ := own_bind hg
  by_cases q : t' = t
  · subst q; rw [if_pos rfl] at h2
    by_cases u : vs.length ≤ cap
    · rw [if_pos u] at h2; cases h2; exact ⟨vs, h1, u, rfl⟩
    · rw [if_neg u] at h2; cases h2
  · rw [if_neg q] at h2; cases h2
theorem lA_e {x : Int32} (hg : lA D a t = some x) : ∃ vs, D[a]? = some (t, vs) ∧ x = vs.length.toInt32 := by
  obtain ⟨⟨t', vs⟩, h1, h2⟩ := own_bind hg
  by_cases q : t' = t
  · subst q; rw [if_pos rfl] at h2; cases h2; exact ⟨vs, h1, rfl⟩
  · rw [if_neg q] at h2; cases h2
theorem Ow.fld (O : Ow K Z h n0 D) (hg : gV D a t i = some v) (hK : (K t).1 = .object C) (hf : (K t).2[i]? = some (f, d)) : Fld Z h (n0 + a) C f d (sh n0 v) := by
  obtain ⟨vs, h1, h2⟩ := gV_e hg
  obtain ⟨w, h3, h4⟩ := ((O.2 a t vs h1).2 C hK).2 i f d hf
  cases h2.symm.trans h3; exact h4
theorem Ow.fld0 (O : Ow K Z h n0 D) (hg : pV D a t i v = some D') (hK : (K t).1 = .object C) (hf : (K t).2[i]? = some (f, d)) : ∃ w, Fld Z h (n0 + a) C f d w := by
  obtain ⟨vs, h1, h2, -⟩ := pV_e hg
  obtain ⟨w, h3, h4⟩ := ((O.2 a t vs h1).2 C hK).2 i f d hf
  exact ⟨_, h4⟩
theorem Ow.exa (O : Ow K Z h n0 D) {vs : List Value} (hg : D[a]? = some (t, vs)) (hK : (K t).1 = .object C) : Exa Z h (n0 + a) C := ((O.2 a t vs hg).2 C hK).1
theorem Ow.exaC (O : Ow K Z h n0 D) {q : Nat} (hg : ck D a t = some q) (hK : (K t).1 = .object C) : Exa Z h (n0 + a) C := by
  obtain ⟨vs, h1⟩ := ck_e hg; exact O.exa h1 hK
theorem Ow.exaP (O : Ow K Z h n0 D) (hg : pV D a t i v = some D') (hK : (K t).1 = .object C) : Exa Z h (n0 + a) C := by
  obtain ⟨vs, h1, -⟩ := pV_e hg; exact O.exa h1 hK
theorem sh_len (vs : List Value) : ((vs.map (sh n0)).toArray).size = vs.length := by simp
/-- the array at a, its cell, that the place j lies in it and what it holds -/
theorem Ow.arrR (O : Ow K Z h n0 D) (hg : rV D a t j = some v) (hK : (K t).1 = .array ty) : ∃ c : Cell, Arr Z h (n0 + a) c ty ∧ ¬ (j < 0 ∨ c.slots.size ≤ j.toNatClampNeg) ∧ c.slots[j.toNatClampNeg]? = some (sh n0 v) := by
  obtain ⟨vs, h1, h2, h3⟩ := rV_e hg
  obtain ⟨-, c, A, hs, -, -⟩ := (O.2 a t vs h1).1 ty hK
  have hlt := (List.getElem?_eq_some_iff.mp h3).1
  refine ⟨c, A, ?_, ?_⟩
  · rw [hs, sh_len]; intro q; rcases q with q | q
    · exact h2 q
    · omega
  · rw [hs]; simp [h3]
theorem Ow.arrL (O : Ow K Z h n0 D) {x : Int32} (hg : lA D a t = some x) (hK : (K t).1 = .array ty) : ∃ c : Cell, Arr Z h (n0 + a) c ty ∧ c.slots.size.toInt32 = x := by
  obtain ⟨vs, h1, h2⟩ := lA_e hg
  obtain ⟨-, c, A, hs, -, -⟩ := (O.2 a t vs h1).1 ty hK
  exact ⟨c, A, by rw [hs, sh_len, h2]⟩
theorem Ow.arrW (O : Ow K Z h n0 D) (hg : wV D a t j v = some D') (hK : (K t).1 = .array ty) : ∃ c : Cell, Arr Z h (n0 + a) c ty ∧ ¬ (j < 0 ∨ c.slots.size ≤ j.toNatClampNeg) := by
  obtain ⟨vs, h1, h2, h3, -⟩ := wV_e hg
  obtain ⟨-, c, A, hs, -, -⟩ := (O.2 a t vs h1).1 ty hK
  refine ⟨c, A, ?_⟩
  rw [hs, sh_len]; intro q; rcases q with q | q
  · exact h2 q
  · omega
theorem own_get_set {k : Nat} {ob ob' : Nat × List Value} (hk : (D.set a ob)[k]? = some ob') : (k = a ∧ ob' = ob ∧ a < D.length) ∨ (k ≠ a ∧ D[k]? = some ob') := by
  by_cases q : k = a
  · subst q
    rw [List.getElem?_set] at hk
    simp only [if_true] at hk
    by_cases r : k < D.length
    · rw [if_pos r] at hk; cases hk; exact Or.inl ⟨rfl, rfl, r⟩
    · rw [if_neg r] at hk; cases hk
  · rw [List.getElem?_set_ne (Ne.symm q)] at hk; exact Or.inr ⟨q, hk⟩
theorem Ob1.other {x y k : Nat} {vs : List Value} {w : Value} {sl : Nat} (B : Ob1 K Z h n0 x k vs) (W : Wr h h' y sl w) (hne : x ≠ y) : Ob1 K Z h' n0 x k vs := by
  refine ⟨fun ty hK => ?_, fun C hK => ?_⟩
  · obtain ⟨E, c, A, r⟩ := B.1 ty hK
    exact ⟨E.wr W, c, A.other W hne, r⟩
  · obtain ⟨E, F⟩ := B.2 C hK
    refine ⟨E.wr W, fun i f d hi => ?_⟩
    obtain ⟨v, h1, h2⟩ := F i f d hi
    exact ⟨v, h1, h2.other W (Or.inl hne)⟩
theorem Ow.st (O : Ow K Z h n0 D) (hg : wV D a t j v = some D') (hK : (K t).1 = .array ty) (hfit : fits ty v = true) (W : Wr h h' (n0 + a) j.toNatClampNeg (sh n0 v)) : Ow K Z h' n0 D' := by
  obtain ⟨vs, h1, h2, h3, rfl⟩ := wV_e hg
  refine ⟨by rw [W.size, O.1, List.length_set], fun k t' vs' hk => ?_⟩
  rcases own_get_set hk with ⟨rfl, e, -⟩ | ⟨hne, hk'⟩
  · cases e
    refine ⟨fun ty' hK' => ?_, fun C hK' => ?_⟩
    · cases hK.symm.trans hK'
      obtain ⟨E, c, A, hs, hl, hf⟩ := (O.2 _ _ vs h1).1 _ hK
      refine ⟨E.wr W, _, A.same W, ?_, by rw [List.length_set]; exact hl, fun w hw => ?_⟩
      · simp only [Cell.setSlot, hs]
        rw [List.map_set]
        simp
      · rcases List.mem_or_eq_of_mem_set hw with q | q
        · exact hf w q
        · rw [q]; exact hfit
    · rw [hK] at hK'; cases hK'
  · exact (O.2 k t' vs' hk').other W (by omega)
theorem Ow.put {a0 : Array Value} (O : Ow K Z h n0 D) (hL : Lay K Z a0) (hg : pV D a t i v = some D') (hK : (K t).1 = .object C) (hf : (K t).2[i]? = some (f, d)) (W : Wr h h' (n0 + a) (Jvm.RoadKit.slotOf Z C f d) (sh n0 v)) : Ow K Z h' n0 D' := by
  obtain ⟨vs, h1, h3, rfl⟩ := pV_e hg
  refine ⟨by rw [W.size, O.1, List.length_set], fun k t' vs' hk => ?_⟩
  rcases own_get_set hk with ⟨rfl, e, -⟩ | ⟨hne, hk'⟩
  · cases e
    refine ⟨fun ty' hK' => (by rw [hK] at hK'; cases hK'), fun C' hK' => ?_⟩
    cases hK.symm.trans hK'
    obtain ⟨E, F⟩ := (O.2 _ _ vs h1).2 _ hK
    refine ⟨E.wr W, fun i' f' d' hi' => ?_⟩
    obtain ⟨w, g1, g2⟩ := F i' f' d' hi'
    by_cases q : i' = i
    · subst q
      cases hf.symm.trans hi'
      exact ⟨v, by rw [List.getElem?_set]; simp [h3], g2.same W⟩
    · refine ⟨w, by rw [List.getElem?_set_ne (Ne.symm q)]; exact g1, g2.other W (Or.inr ?_)⟩
      obtain ⟨hl, hn⟩ := hL t C hK
      obtain ⟨l1, ty1, p1⟩ := hl _ (List.mem_of_getElem? hf)
      obtain ⟨l2, ty2, p2⟩ := hl _ (List.mem_of_getElem? hi')
      refine slot_ne l2 l1 (fun e => q ?_) p2 p1
      have m1 : ((K t).2.map Prod.fst)[i]? = some f := by rw [List.getElem?_map, hf]; rfl
      have m2 : ((K t).2.map Prod.fst)[i']? = some f' := by rw [List.getElem?_map, hi']; rfl
      obtain ⟨b1, c1⟩ := List.getElem?_eq_some_iff.mp m1
      obtain ⟨b2, c2⟩ := List.getElem?_eq_some_iff.mp m2
      exact (List.getElem_inj hn).mp (by rw [c1, c2]; exact e)
  · exact (O.2 k t' vs' hk').other W (by omega)
theorem Ob1.ext {x k : Nat} {vs : List Value} (B : Ob1 K Z h n0 x k vs) (E : Ext h h') : Ob1 K Z h' n0 x k vs := by
  refine ⟨fun ty hK => ?_, fun C hK => ?_⟩
  · obtain ⟨F, c, A, r⟩ := B.1 ty hK
    exact ⟨F.ext E, c, A.ext E, r⟩
  · obtain ⟨X, F⟩ := B.2 C hK
    refine ⟨X.ext E, fun i f d hi => ?_⟩
    obtain ⟨v, h1, h2⟩ := F i f d hi
    exact ⟨v, h1, h2.ext E⟩
theorem Ow.push {vs : List Value} (O : Ow K Z h n0 D) (E : Ext h h') (hsz : h'.size = h.size + 1) (B : Ob1 K Z h' n0 (n0 + D.length) t vs) : Ow K Z h' n0 (D ++ [(t, vs)]) := by
  refine ⟨by rw [hsz, O.1, List.length_append]; rfl, fun k t' vs' hk => ?_⟩
  by_cases q : k < D.length
  · rw [List.getElem?_append_left q] at hk; exact (O.2 k t' vs' hk).ext E
  · rw [List.getElem?_append_right (Nat.le_of_not_lt q)] at hk
    have e : k - D.length = 0 := by
      have := (List.getElem?_eq_some_iff.mp hk).1
      simp only [List.length_singleton] at this; omega
    rw [e] at hk
    have hk2 : (t, vs) = (t', vs') := Option.some.inj hk
    cases hk2
    have : k = D.length := by omega
    rw [this]; exact B
theorem sh_default (ty : FieldType) : sh n0 (defaultValue ty) = defaultValue ty := by cases ty <;> rfl
theorem own_ow0 (h : Heap) : Ow K Z h h.size [] := ⟨by simp, fun k t vs hk => by simp at hk⟩
end OwnHeap
/-! 3. the laws of the library, over that list -/
section OwnLaws
variable {p : Program} {l : Launch} {e : Env} {R : Room} {s : State} {m : MethodId} {args : Array Value} {below : List Frame} {meth : Method} {c : Code} {T : State} {locs : List Loc} {cells slots : Nat} {Z : State} {a0 : Array Value} {h : Heap} {K : Kt} {n0 : Nat} {D D' : Hp} {a t : Nat}
theorem ldW (X : Stand p l e R s m args below meth c T locs cells slots) (hx : p.tables.exec = Jvm.exec) (hZ : Z.Warmed39 s.vm) (eT : T.heap = h) (O : Ow K Z h n0 D) {j : Int32} {x : Int32} (hg : rI D a t j = some x) (hK : (K t).1 = .array .int)
    {g : JFrame} (hgm : g.method = m) {rest : List Value} (hs : g.stack = .int j :: .ref (n0 + a) :: rest) (hd : decode c.code g.pc = .ok (.iaload, 1)) (target : State)
    (hr : Steps p.tables e below (T.setTop { g with pc := g.pc + 1, stack := .int x :: rest }) target) : Steps p.tables e below (T.setTop g) target := by
  obtain ⟨cl, A, hin, hat⟩ := O.arrR (rI_e hg) hK
  exact X.iaload hx (v := .int x) (by rw [eT]; exact A.1) (State.isArrayOf_alike hZ.alike A.2.1) A.2.2 hin hat hgm hs hd target hr
theorem ldB (X : Stand p l e R s m args below meth c T locs cells slots) (hx : p.tables.exec = Jvm.exec) (hZ : Z.Warmed39 s.vm) (eT : T.heap = h) (O : Ow K Z h n0 D) {j : Int32} {x : Int32} (hg : rI D a t j = some x) (hK : (K t).1 = .array .byte)
    {g : JFrame} (hgm : g.method = m) {rest : List Value} (hs : g.stack = .int j :: .ref (n0 + a) :: rest) (hd : decode c.code g.pc = .ok (.baload, 1)) (target : State)
    (hr : Steps p.tables e below (T.setTop { g with pc := g.pc + 1, stack := .int x :: rest }) target) : Steps p.tables e below (T.setTop g) target := by
  obtain ⟨cl, A, hin, hat⟩ := O.arrR (rI_e hg) hK
  exact X.baloadBytes hx (v := .int x) (by rw [eT]; exact A.1) (State.isArrayOf_alike hZ.alike A.2.1) A.2.2 hin hat hgm hs hd target hr
theorem ldJ (X : Stand p l e R s m args below meth c T locs cells slots) (hx : p.tables.exec = Jvm.exec) (hZ : Z.Warmed39 s.vm) (eT : T.heap = h) (O : Ow K Z h n0 D) {j : Int32} {x : Int64} (hg : rJ D a t j = some x) (hK : (K t).1 = .array .long)
    {g : JFrame} (hgm : g.method = m) {rest : List Value} (hs : g.stack = .int j :: .ref (n0 + a) :: rest) (hd : decode c.code g.pc = .ok (.laload, 1)) (target : State)
    (hr : Steps p.tables e below (T.setTop { g with pc := g.pc + 1, stack := .long x :: rest }) target) : Steps p.tables e below (T.setTop g) target := by
  obtain ⟨cl, A, hin, hat⟩ := O.arrR (rJ_e hg) hK
  exact X.laload hx (v := .long x) (by rw [eT]; exact A.1) (State.isArrayOf_alike hZ.alike A.2.1) A.2.2 hin hat hgm hs hd target hr
theorem lenW' (X : Stand p l e R s m args below meth c T locs cells slots) (hx : p.tables.exec = Jvm.exec) (hZ : Z.Warmed39 s.vm) (eT : T.heap = h) (O : Ow K Z h n0 D) {x : Int32} (hg : lA D a t = some x) {ty : FieldType} (hK : (K t).1 = .array ty)
    {g : JFrame} (hgm : g.method = m) {rest : List Value} (hs : g.stack = .ref (n0 + a) :: rest) (hd : decode c.code g.pc = .ok (.arraylength, 1)) (target : State)
    (hr : Steps p.tables e below (T.setTop { g with pc := g.pc + 1, stack := .int x :: rest }) target) : Steps p.tables e below (T.setTop g) target := by
  obtain ⟨cl, A, hl⟩ := O.arrL hg hK
  subst hl
  exact X.arraylength hx (by rw [eT]; exact A.1) (State.isArrayOf_alike hZ.alike A.2.1) hgm hs hd target hr
theorem stIW (X : Stand p l e R s m args below meth c T locs cells slots) (hx : p.tables.exec = Jvm.exec) (hZ : Z.Warmed39 s.vm) (eT : T.heap = h) (O : Ow K Z h n0 D) (N : Fr n0 locs) {j x : Int32} (hg : wV D a t j (.int x) = some D') (hK : (K t).1 = .array .int)
    {g : JFrame} (hgm : g.method = m) {rest : List Value} (hs : g.stack = .int x :: .int j :: .ref (n0 + a) :: rest) (hd : decode c.code g.pc = .ok (.iastore, 1)) :
    ∃ T' h' L, Stand p l e R s m args below meth c T' L cells slots ∧ T'.heap = h' ∧ Ow K Z h' n0 D' ∧ Fr n0 L ∧ ∀ target, Steps p.tables e below (T'.setTop { g with pc := g.pc + 1, stack := rest }) target → Steps p.tables e below (T.setTop g) target := by
  obtain ⟨cl, A, hin⟩ := O.arrW hg hK
  obtain ⟨T', h', X', e', W, st⟩ := stI X hx hZ eT A hin hgm hs hd
  exact ⟨T', h', _, X', e', O.st hg hK rfl W, Fr.snoc X' N (Nat.le_add_right _ _), st⟩
theorem stBW (X : Stand p l e R s m args below meth c T locs cells slots) (hx : p.tables.exec = Jvm.exec) (hZ : Z.Warmed39 s.vm) (eT : T.heap = h) (O : Ow K Z h n0 D) (N : Fr n0 locs) {j x : Int32} (hg : wV D a t j (.int x.toInt8.toInt32) = some D') (hK : (K t).1 = .array .byte)
    {g : JFrame} (hgm : g.method = m) {rest : List Value} (hs : g.stack = .int x :: .int j :: .ref (n0 + a) :: rest) (hd : decode c.code g.pc = .ok (.bastore, 1)) :
    ∃ T' h' L, Stand p l e R s m args below meth c T' L cells slots ∧ T'.heap = h' ∧ Ow K Z h' n0 D' ∧ Fr n0 L ∧ ∀ target, Steps p.tables e below (T'.setTop { g with pc := g.pc + 1, stack := rest }) target → Steps p.tables e below (T.setTop g) target := by
  obtain ⟨cl, A, hin⟩ := O.arrW hg hK
  obtain ⟨T', h', X', e', W, st⟩ := stB X hx hZ eT A hin hgm hs hd
  exact ⟨T', h', _, X', e', O.st hg hK (fits_nar_byte _) W, Fr.snoc X' N (Nat.le_add_right _ _), st⟩
theorem stJW (X : Stand p l e R s m args below meth c T locs cells slots) (hx : p.tables.exec = Jvm.exec) (hZ : Z.Warmed39 s.vm) (eT : T.heap = h) (O : Ow K Z h n0 D) (N : Fr n0 locs) {j : Int32} {x : Int64} (hg : wV D a t j (.long x) = some D') (hK : (K t).1 = .array .long)
    {g : JFrame} (hgm : g.method = m) {rest : List Value} (hs : g.stack = .long x :: .int j :: .ref (n0 + a) :: rest) (hd : decode c.code g.pc = .ok (.lastore, 1)) :
    ∃ T' h' L, Stand p l e R s m args below meth c T' L cells slots ∧ T'.heap = h' ∧ Ow K Z h' n0 D' ∧ Fr n0 L ∧ ∀ target, Steps p.tables e below (T'.setTop { g with pc := g.pc + 1, stack := rest }) target → Steps p.tables e below (T.setTop g) target := by
  obtain ⟨cl, A, hin⟩ := O.arrW hg hK
  obtain ⟨T', h', X', e', W, st⟩ := stJ X hx hZ eT A hin hgm hs hd
  exact ⟨T', h', _, X', e', O.st hg hK rfl W, Fr.snoc X' N (Nat.le_add_right _ _), st⟩
theorem putW (X : Stand p l e R s m args below meth c T locs cells slots) (hx : p.tables.exec = Jvm.exec) (hZ : Z.Warmed39 s.vm) {own C f d : String} {index kk i : Nat} {ty : FieldType} (hown : s.vm.findClass own = some m.cls) (w : (Cond.fieldLink own index C f d).before a0 Z = true) (hL : Lay K Z a0)
    (eT : T.heap = h) (O : Ow K Z h n0 D) (N : Fr n0 locs) {v : Value} (hg : pV D a t i v = some D') (hK : (K t).1 = .object C) (hf : (K t).2[i]? = some (f, d)) (L : (Cond.lays C C f d).before a0 Z = true ∨ ((Cond.laysFinal C C f d).before a0 Z = true ∧ own = C ∧ meth.name = "<init>")) (wi : (Cond.instantiable C kk).before a0 Z = true)
    (hty : parseFieldDescriptor d = some ty) (hn : narrow ty (sh n0 v) = sh n0 v) (hfit : fits ty (sh n0 v) = true) {g : JFrame} (hgm : g.method = m) {rest : List Value} (hs : g.stack = sh n0 v :: .ref (n0 + a) :: rest) (hd : decode c.code g.pc = .ok (.putfield index, 3)) :
    ∃ T' h' L, Stand p l e R s m args below meth c T' L cells slots ∧ T'.heap = h' ∧ Ow K Z h' n0 D' ∧ Fr n0 L ∧ ∀ target, Steps p.tables e below (T'.setTop { g with pc := g.pc + 3, stack := rest }) target → Steps p.tables e below (T.setTop g) target := by
  obtain ⟨old, F⟩ := O.fld0 hg hK hf
  obtain ⟨T', h', X', e', W, st⟩ := putF X hx hZ hown (host := "") (Or.inl w) Via.refl eT F (O.exaP hg hK) L wi hty hn hfit hgm hs hd
  exact ⟨T', h', _, X', e', O.put hL hg hK hf W, Fr.snoc X' N (Nat.le_add_right _ _), st⟩
theorem newW (X : Stand p l e R s m args below meth c T locs cells slots) (hx : p.tables.exec = Jvm.exec) (hZ : Z.Warmed39 s.vm) {own C : String} {index n : Nat} (hown : s.vm.findClass own = some m.cls) (w : (Cond.classLink own index C).before a0 Z = true) (wi : (Cond.instantiable C n).before a0 Z = true) (wz : (Cond.initialized C).before a0 Z = true) (hL : Lay K Z a0) (eT : T.heap = h) (O : Ow K Z h n0 D)
    (hK : (K t).1 = .object C) {ds : List Value} (hds : ∀ q ∈ (K t).2.zipIdx, ∃ ty, parseFieldDescriptor q.1.2 = some ty ∧ ds[q.2]? = some (defaultValue ty)) {g : JFrame} (hg : g.method = m) (hd : decode c.code g.pc = .ok (.new index, 3)) (hc : cells + 1 ≤ R.cells) (hl : slots + n ≤ R.slots) :
    ∃ T' h', Stand p l e R s m args below meth c T' locs (cells + 1) (slots + n) ∧ T'.heap = h' ∧ Ow K Z h' n0 (D ++ [(t, ds)]) ∧ ∀ target, Steps p.tables e below (T'.setTop { g with pc := g.pc + 3, stack := .ref (n0 + D.length) :: g.stack }) target → Steps p.tables e below (T.setTop g) target := by
  obtain ⟨vm', cC, kC, h1, h2, h3, h4, X', st⟩ := X.newCold hx hown (mv hZ w) (mv hZ wi) (mv hZ wz) hg hd hc hl
  subst eT
  rw [hZ.alike.findClass] at h1
  obtain ⟨kZ, z1, -⟩ := Vm.findClass_spec h1
  obtain ⟨k', z2, z3⟩ := hZ.alike.2.2 _ _ z1
  cases h2.symm.trans z2
  have ei : kC.instanceTypes = kZ.instanceTypes := by rw [z3]
  have hN : (T.heap.push { cls := cC, slots := kC.instanceTypes.map defaultValue, vm := .none })[T.heap.size]? = some { cls := cC, slots := kC.instanceTypes.map defaultValue, vm := .none } := by simp
  have E : Ext T.heap (T.heap.push { cls := cC, slots := kC.instanceTypes.map defaultValue, vm := .none }) := ⟨by simp, fun a c h => by
    rw [Array.getElem?_push_lt (Array.getElem?_eq_some_iff.mp h).1]; exact (Array.getElem?_eq_getElem _).symm.trans h⟩
  have hsz := O.1
  refine ⟨_, _, X', rfl, O.push E (by simp) ⟨fun ty hK' => (by rw [hK] at hK'; cases hK'), fun C' hK' => ?_⟩, by rw [← hsz]; exact st⟩
  cases hK.symm.trans hK'
  rw [← hsz]
  refine ⟨⟨_, kZ, hN, h1, z1, rfl, fun _ => by simp [ei]⟩, fun i f d hi => ?_⟩
  obtain ⟨ty, t1, t2⟩ := hds ((f, d), i) (List.mem_zipIdx_iff_getElem?.mpr hi)
  refine ⟨_, t2, ?_⟩
  rw [sh_default]
  obtain ⟨c1, k1, cf, kf, i', f', a1, a2, a3, a4, a5, a6, -⟩ := ((hL t C hK).1 _ (List.mem_of_getElem? hi)).1.spec
  cases h1.symm.trans a1
  cases z1.symm.trans a2
  exact ⟨_, cf, kf, i', f', hN, a3, a4, by simp, rfl, a5, by simp [ei, a6, (State.fieldFound?_type a3 t1).2]⟩
theorem newAW (X : Stand p l e R s m args below meth c T locs cells slots) (hx : p.tables.exec = Jvm.exec) (hZ : Z.Warmed39 s.vm) {aty : ArrayType} (w : (Cond.arrayClass (newarray.typeOf aty)).before a0 Z = true) (eT : T.heap = h) (O : Ow K Z h n0 D) (hK : (K t).1 = .array (newarray.typeOf aty))
    {n : Int32} {cap : Nat} {z : Value} (hz : z = defaultValue (newarray.typeOf aty)) (hn : nA D t n cap z = some D') {g : JFrame} (hg : g.method = m) (hd : decode c.code g.pc = .ok (.newarray aty, 2)) {rest : List Value} (hs : g.stack = .int n :: rest)
    (hb : cap * 8 ≤ 536870912) (hc : cells + 1 ≤ R.cells) (hl : slots + cap ≤ R.slots) :
    ∃ T' h', Stand p l e R s m args below meth c T' locs (cells + 1) (slots + cap) ∧ T'.heap = h' ∧ Ow K Z h' n0 D' ∧ ∀ target, Steps p.tables e below (T'.setTop { g with pc := g.pc + 2, stack := .ref (n0 + D.length) :: rest }) target → Steps p.tables e below (T.setTop g) target := by
  have hcb : componentBytes (newarray.typeOf aty) ≤ 8 := by cases aty <;> decide
  by_cases q : n < 0
  · simp only [nA, if_pos q] at hn; cases hn
  simp only [nA, if_neg q] at hn
  by_cases hcap : n.toNatClampNeg ≤ cap
  · rw [if_pos hcap] at hn
    cases hn
    obtain ⟨cA, kA, comp, h1, h2, h3, X', st⟩ := X.newarrayPrim hx (mvA hZ w) hg hd hs q (Nat.le_trans (Nat.mul_le_mul hcap hcb) hb) hc (by omega)
    subst eT
    rw [hZ.alike.findClass] at h1
    obtain ⟨kZ, z1, -⟩ := Vm.findClass_spec h1
    obtain ⟨k', z2, z3⟩ := hZ.alike.2.2 _ _ z1
    cases h2.symm.trans z2
    have hsz := O.1
    refine ⟨_, _, X'.more (Nat.le_refl _) (by omega), rfl, O.push (h' := T.heap.push _) ⟨by simp, fun a c h => ?_⟩ (by simp) ⟨fun ty hK' => ?_, fun C hK' => by rw [hK] at hK'; cases hK'⟩, by rw [← hsz]; exact st⟩
    · rw [Array.getElem?_push_lt (Array.getElem?_eq_some_iff.mp h).1]; exact (Array.getElem?_eq_getElem _).symm.trans h
    · cases hK.symm.trans hK'
      rw [← hsz]
      have ek : kZ.kind = .array comp (newarray.typeOf aty) := by rw [← h3, z3]
      refine ⟨⟨_, kZ, Array.getElem?_push_size, h1, z1, rfl, fun q => by rw [ek] at q; cases q⟩, _, ⟨Array.getElem?_push_size, ⟨by simp, kZ, z1, comp, ek⟩, by simp⟩, ?_, ?_, fun v hv => ?_⟩
      · rw [hz, List.map_replicate, sh_default]; simp
      · rw [List.length_replicate]; exact (back32 q).2
      · rw [(List.mem_replicate.mp hv).2, hz]; cases aty <;> rfl
  · rw [if_neg hcap] at hn; cases hn
/-! 4. contracts and calls -/
def Qw (K : Kt) (Z : State) (n0 : Nat) (r : Option Value) (D' : Hp) : Option Value → Heap → List Loc → Prop := fun v h L => v = r ∧ Fr n0 L ∧ Ow K Z h n0 D'
def Ct (K : Kt) (l : Launch) (Z : State) (y : MethodName) (cw : Jvm.Cond) (rm : Room) (n0 : Nat) (D : Hp) (as' : Array Value) (r : Option Value) (D' : Hp) : Prop :=
  ∀ (h0 : Heap) (ws : List Jvm.Cond), Ow K Z h0 n0 D → MetFree l y (head1 (cw :: ws) rm) (fun a U => a = as' ∧ Z.Warmed39 U.vm ∧ U.heap = h0) (fun _ _ _ _ _ => True) (fun _ U o U' => ∃ v L, o = .returned v ∧ Qw K Z n0 r D' v U'.heap L ∧ FrameEnd U o U' L rm.cells rm.slots)
/-- what stands still through a body -/
def Cx (p : Program) (s : State) (m : MethodId) (meth : Method) (c : Code) (Z : State) (bytes : ByteArray) (maxL : Nat) (ret : Option FieldType) (own nm : String) : Prop :=
  p.tables.exec = Jvm.exec ∧ Z.Warmed39 s.vm ∧ c.code = bytes ∧ c.maxLocals = maxL ∧ s.vm.findClass own = some m.cls ∧ meth.name = nm ∧ meth.sig.returnType = ret ∧ meth.locks = false
variable {y : MethodName} {bytes : ByteArray} {maxL : Nat} {ret : Option FieldType} {rm : Room} {r : Option Value}
theorem Ct.of {as' : Array Value} (hpl : plainFor y = true) (body : ∀ (p : Program) (e : Env) (s : State) (m : MethodId) (below : List Frame) (meth : Method) (c : Code) (s₁ : State) (h0 : Heap), Cx p s m meth c Z bytes maxL ret y.cls y.name → Stand p l e rm s m as' below meth c s₁ [] 0 0 → s₁.heap = h0 → Ow K Z h0 n0 D →
      Gl p e below s rm.cells rm.slots (Qw K Z n0 r D') (s₁.setTop (entryFrame m as' maxL))) : Ct K l Z y (.code y bytes maxL ret) rm n0 D as' r D' := by
  intro h0 ws O
  refine MetFree.of_bodySF hpl hisR ?_
  intro p e s m args below meth c s₁ Bd hml0 hP hK
  obtain ⟨rfl, hZ, hh⟩ := hP
  exact body p e s m below meth c s₁ h0 ⟨Bd.exec, hZ, Bd.bytes, hml0, findClass_of_methodNamed Bd.named, (name_of_methodNamed Bd.named Bd.method).1, Bd.returns, BodyLoose.notSynchronized Bd⟩ (Stand.of_body Bd) (by rw [← hh, Bd.state]; rfl) O
theorem Ct.ofH {as' : Array Value} {hs : List (Nat × Nat × Nat × Nat)} (hpl : plainFor y = true) (body : ∀ (p : Program) (e : Env) (s : State) (m : MethodId) (below : List Frame) (meth : Method) (c : Code) (s₁ : State) (h0 : Heap), Cx p s m meth c Z bytes maxL ret y.cls y.name → Stand p l e rm s m as' below meth c s₁ [] 0 0 → s₁.heap = h0 → Ow K Z h0 n0 D →
      Gl p e below s rm.cells rm.slots (Qw K Z n0 r D') (s₁.setTop (entryFrame m as' maxL))) : Ct K l Z y (.codeWith y bytes maxL ret hs) rm n0 D as' r D' := by
  intro h0 ws O
  refine MetFree.of_bodySF hpl hisWith ?_
  intro p e s m args below meth c s₁ Bd hml0 hP hK
  obtain ⟨rfl, hZ, hh⟩ := hP
  exact body p e s m below meth c s₁ h0 ⟨Bd.exec, hZ, Bd.bytes, hml0, findClass_of_methodNamed Bd.named, (name_of_methodNamed Bd.named Bd.method).1, Bd.returns, BodyLoose.notSynchronized Bd⟩ (Stand.of_body Bd) (by rw [← hh, Bd.state]; rfl) O
theorem callSW (X : Stand p l e R s m args below meth c T locs cells slots) (hx : p.tables.exec = Jvm.exec) (hZ : Z.Warmed39 s.vm) {own : String} {index : Nat} (hown : s.vm.findClass own = some m.cls) (w1 : (Cond.methodLink own index y).before a0 Z = true) (w2 : (Cond.static y).before a0 Z = true) (w3 : (Cond.initialized y.cls).before a0 Z = true) (w4 : (Cond.code y bytes maxL ret).before a0 Z = true)
    (hy : y.cls ≠ "java/lang/invoke/MethodHandle" ∧ y.cls ≠ "java/lang/invoke/VarHandle") (eT : T.heap = h) (O : Ow K Z h n0 D) (N : Fr n0 locs) {as' : List Value} (hM : Ct K l Z y (.code y bytes maxL ret) rm n0 D as'.toArray r D') {W kc ks : Nat} (hkc : rm.cells = kc) (hks : rm.slots = ks) (hf : rm.frames + 1 ≤ R.frames) (hl : W + (maxL + 11) + rm.locals ≤ R.locals)
    {g : JFrame} (hg : g.method = m) (hsize : g.locals.size = c.maxLocals) {rest : List Value} (hlen : ∀ sig, parseMethodDescriptor y.desc = some sig → as'.length = sig.parameters.length) (hs : g.stack = as'.reverse ++ rest) (hW : 2 * g.monitorRoom + (rest.map fun v => v.category).sum ≤ W) (hd : decode c.code g.pc = .ok (.invokestatic index, 3)) (hc : cells + kc ≤ R.cells) (hsl : slots + ks ≤ R.slots) :
    ∃ T' h' L, Stand p l e R s m args below meth c T' L (cells + kc) (slots + ks) ∧ T'.heap = h' ∧ Ow K Z h' n0 D' ∧ Fr n0 L ∧ ∀ target, Steps p.tables e below (T'.setTop { g with pc := g.pc + 3, stack := r.toList ++ rest }) target → Steps p.tables e below (T.setTop g) target := by
  subst hkc hks
  obtain ⟨_, _, ⟨T', L', k', n'⟩, -, X', ⟨Lc, hQ, hL, hk, hn⟩, st⟩ := Jvm.LawKit.callS X hx hown (mvT hZ w1) (mvT hZ w2) (mvT hZ w3) (mvT hZ w4) hy (backOf (W := W) (hM h [] O) hZ w4 w3 hf hl) hg hsize (argsL := as') hlen hs hW hd (fun _ _ => ⟨rfl, eT, hc, hsl⟩)
  dsimp only [Pt.U, Pt.locs, Pt.cells, Pt.slots] at X' hL hk hn st hQ
  subst hL hk hn
  obtain ⟨rfl, N', O'⟩ := hQ
  exact ⟨T', _, _, X', rfl, O', N.app N', st⟩
theorem callSHW (X : Stand p l e R s m args below meth c T locs cells slots) (hx : p.tables.exec = Jvm.exec) (hZ : Z.Warmed39 s.vm) {own : String} {index : Nat} {hs' : List (Nat × Nat × Nat × Nat)} (hown : s.vm.findClass own = some m.cls) (w1 : (Cond.methodLink own index y).before a0 Z = true) (w2 : (Cond.static y).before a0 Z = true) (w3 : (Cond.initialized y.cls).before a0 Z = true) (w4 : (Cond.codeWith y bytes maxL ret hs').before a0 Z = true)
    (hy : y.cls ≠ "java/lang/invoke/MethodHandle" ∧ y.cls ≠ "java/lang/invoke/VarHandle") (eT : T.heap = h) (O : Ow K Z h n0 D) (N : Fr n0 locs) {as' : List Value} (hM : Ct K l Z y (.codeWith y bytes maxL ret hs') rm n0 D as'.toArray r D') {W kc ks : Nat} (hkc : rm.cells = kc) (hks : rm.slots = ks) (hf : rm.frames + 1 ≤ R.frames) (hl : W + (maxL + 11) + rm.locals ≤ R.locals)
    {g : JFrame} (hg : g.method = m) (hsize : g.locals.size = c.maxLocals) {rest : List Value} (hlen : ∀ sig, parseMethodDescriptor y.desc = some sig → as'.length = sig.parameters.length) (hs : g.stack = as'.reverse ++ rest) (hW : 2 * g.monitorRoom + (rest.map fun v => v.category).sum ≤ W) (hd : decode c.code g.pc = .ok (.invokestatic index, 3)) (hc : cells + kc ≤ R.cells) (hsl : slots + ks ≤ R.slots) :
    ∃ T' h' L, Stand p l e R s m args below meth c T' L (cells + kc) (slots + ks) ∧ T'.heap = h' ∧ Ow K Z h' n0 D' ∧ Fr n0 L ∧ ∀ target, Steps p.tables e below (T'.setTop { g with pc := g.pc + 3, stack := r.toList ++ rest }) target → Steps p.tables e below (T.setTop g) target := by
  subst hkc hks
  obtain ⟨_, _, ⟨T', L', k', n'⟩, -, X', ⟨Lc, hQ, hL, hk, hn⟩, st⟩ := callSH X hx hown (mvT hZ w1) (mvT hZ w2) (mvT hZ w3) (mvT hZ w4) hy (backOfWith (W := W) (hM h [] O) hZ w4 w3 hf hl) hg hsize (argsL := as') hlen hs hW hd (fun _ _ => ⟨rfl, eT, hc, hsl⟩)
  dsimp only [Pt.U, Pt.locs, Pt.cells, Pt.slots] at X' hL hk hn st hQ
  subst hL hk hn
  obtain ⟨rfl, N', O'⟩ := hQ
  exact ⟨T', _, _, X', rfl, O', N.app N', st⟩
theorem callIW (X : Stand p l e R s m args below meth c T locs cells slots) (hx : p.tables.exec = Jvm.exec) (hZ : Z.Warmed39 s.vm) {own : String} {index : Nat} (hy1 : y.name = "<init>") (hown : s.vm.findClass own = some m.cls) (w1 : (Cond.methodLink own index y).before a0 Z = true) (w2 : (Cond.instanceMethod y).before a0 Z = true) (w3 : (Cond.initialized y.cls).before a0 Z = true) (w4 : (Cond.code y bytes maxL none).before a0 Z = true)
    (hy : y.cls ≠ "java/lang/invoke/MethodHandle" ∧ y.cls ≠ "java/lang/invoke/VarHandle") (eT : T.heap = h) (O : Ow K Z h n0 D) (N : Fr n0 locs) {as' : List Value} (hM : Ct K l Z y (.code y bytes maxL none) rm n0 D (.ref (n0 + a) :: as').toArray r D') {W kc ks : Nat} (hkc : rm.cells = kc) (hks : rm.slots = ks) (hf : rm.frames + 1 ≤ R.frames) (hl : W + (maxL + 11) + rm.locals ≤ R.locals)
    {g : JFrame} (hg : g.method = m) (hsize : g.locals.size = c.maxLocals) {rest : List Value} (hlen : ∀ sig, parseMethodDescriptor y.desc = some sig → as'.length = sig.parameters.length) (hs : g.stack = as'.reverse ++ .ref (n0 + a) :: rest) (hW : 2 * g.monitorRoom + (rest.map fun v => v.category).sum ≤ W) (hd : decode c.code g.pc = .ok (.invokespecial index, 3)) (hc : cells + kc ≤ R.cells) (hsl : slots + ks ≤ R.slots) :
    ∃ T' h' L, Stand p l e R s m args below meth c T' L (cells + kc) (slots + ks) ∧ T'.heap = h' ∧ Ow K Z h' n0 D' ∧ Fr n0 L ∧ ∀ target, Steps p.tables e below (T'.setTop { g with pc := g.pc + 3, stack := r.toList ++ rest }) target → Steps p.tables e below (T.setTop g) target := by
  subst hkc hks
  obtain ⟨_, _, ⟨T', L', k', n'⟩, -, X', ⟨Lc, hQ, hL, hk, hn⟩, st⟩ := Jvm.LawKit.callI X hx hown hy1 (mvT hZ w1) (mvT hZ w2) (mvT hZ w4) hy (backOf (W := W) (hM h [] O) hZ w4 w3 hf hl) hg hsize (argsL := as') hlen hs hW hd (fun _ _ => ⟨rfl, eT, hc, hsl⟩)
  dsimp only [Pt.U, Pt.locs, Pt.cells, Pt.slots] at X' hL hk hn st hQ
  subst hL hk hn
  obtain ⟨rfl, N', O'⟩ := hQ
  exact ⟨T', _, _, X', rfl, O', N.app N', st⟩
theorem callVW (X : Stand p l e R s m args below meth c T locs cells slots) (hx : p.tables.exec = Jvm.exec) (hZ : Z.Warmed39 s.vm) {own C : String} {index : Nat} (hown : s.vm.findClass own = some m.cls) (w1 : (Cond.methodLink own index y).before a0 Z = true) (w2 : (Cond.declares y).before a0 Z = true) (w5 : (Cond.selects C y y).before a0 Z = true) (w6 : (Cond.instanceMethod y).before a0 Z = true) (w3 : (Cond.initialized y.cls).before a0 Z = true) (w4 : (Cond.code y bytes maxL ret).before a0 Z = true)
    (hy : y.cls ≠ "java/lang/invoke/MethodHandle" ∧ y.cls ≠ "java/lang/invoke/VarHandle") (eT : T.heap = h) (O : Ow K Z h n0 D) (N : Fr n0 locs) {q : Nat} (hck : ck D a t = some q) (hK : (K t).1 = .object C) {as' : List Value} (hM : Ct K l Z y (.code y bytes maxL ret) rm n0 D (.ref (n0 + a) :: as').toArray r D') {W kc ks : Nat} (hkc : rm.cells = kc) (hks : rm.slots = ks) (hf : rm.frames + 1 ≤ R.frames) (hl : W + (maxL + 11) + rm.locals ≤ R.locals)
    {g : JFrame} (hg : g.method = m) (hsize : g.locals.size = c.maxLocals) {rest : List Value} (hlen : ∀ sig, parseMethodDescriptor y.desc = some sig → as'.length = sig.parameters.length) (hs : g.stack = as'.reverse ++ .ref (n0 + a) :: rest) (hW : 2 * g.monitorRoom + (rest.map fun v => v.category).sum ≤ W) (hd : decode c.code g.pc = .ok (.invokevirtual index, 3)) (hc : cells + kc ≤ R.cells) (hsl : slots + ks ≤ R.slots) :
    ∃ T' h' L, Stand p l e R s m args below meth c T' L (cells + kc) (slots + ks) ∧ T'.heap = h' ∧ Ow K Z h' n0 D' ∧ Fr n0 L ∧ ∀ target, Steps p.tables e below (T'.setTop { g with pc := g.pc + 3, stack := r.toList ++ rest }) target → Steps p.tables e below (T.setTop g) target := by
  subst hkc hks
  obtain ⟨cq, kq, qa, qb, qc⟩ := isOf hZ eT (O.exaC hck hK)
  obtain ⟨_, _, ⟨T', L', k', n'⟩, -, X', ⟨Lc, hQ, hL, hk, hn⟩, st⟩ := X.virtualBack hx (y := y) (z := y) hown (mvT hZ w1) (mvT hZ w2) (notFace_of_selects (args := #[]) (mvT hZ w5)) (mvT hZ w5) (mvT hZ w6) hy (backOf (W := W) (hM h [] O) hZ w4 w3 hf hl) qa qc hg hsize (Steps.refl _) (argsL := as') hlen hs hW hd (fun _ _ => ⟨rfl, eT, hc, hsl⟩)
  dsimp only [Pt.U, Pt.locs, Pt.cells, Pt.slots] at X' hL hk hn st hQ
  subst hL hk hn
  obtain ⟨rfl, N', O'⟩ := hQ
  exact ⟨T', _, _, X', rfl, O', N.app N', fun target k => st.trans k⟩
theorem callPW (X : Stand p l e R s m args below meth c T locs cells slots) (hx : p.tables.exec = Jvm.exec) (hZ : Z.Warmed39 s.vm) {own C : String} {index nk : Nat} (hown : s.vm.findClass own = some m.cls) (w1 : (Cond.methodLink own index y).before a0 Z = true) (w2 : (Cond.privateMethod y).before a0 Z = true) (w5 : (Cond.instantiable y.cls nk).before a0 Z = true) (w6 : (Cond.instanceMethod y).before a0 Z = true) (w3 : (Cond.initialized y.cls).before a0 Z = true) (w4 : (Cond.code y bytes maxL ret).before a0 Z = true)
    (hy : y.cls ≠ "java/lang/invoke/MethodHandle" ∧ y.cls ≠ "java/lang/invoke/VarHandle") (eT : T.heap = h) (O : Ow K Z h n0 D) (N : Fr n0 locs) {q : Nat} (hck : ck D a t = some q) (hK : (K t).1 = .object C) {as' : List Value} (hM : Ct K l Z y (.code y bytes maxL ret) rm n0 D (.ref (n0 + a) :: as').toArray r D') {W kc ks : Nat} (hkc : rm.cells = kc) (hks : rm.slots = ks) (hf : rm.frames + 1 ≤ R.frames) (hl : W + (maxL + 11) + rm.locals ≤ R.locals)
    {g : JFrame} (hg : g.method = m) (hsize : g.locals.size = c.maxLocals) {rest : List Value} (hlen : ∀ sig, parseMethodDescriptor y.desc = some sig → as'.length = sig.parameters.length) (hs : g.stack = as'.reverse ++ .ref (n0 + a) :: rest) (hW : 2 * g.monitorRoom + (rest.map fun v => v.category).sum ≤ W) (hd : decode c.code g.pc = .ok (.invokevirtual index, 3)) (hc : cells + kc ≤ R.cells) (hsl : slots + ks ≤ R.slots) :
    ∃ T' h' L, Stand p l e R s m args below meth c T' L (cells + kc) (slots + ks) ∧ T'.heap = h' ∧ Ow K Z h' n0 D' ∧ Fr n0 L ∧ ∀ target, Steps p.tables e below (T'.setTop { g with pc := g.pc + 3, stack := r.toList ++ rest }) target → Steps p.tables e below (T.setTop g) target := by
  subst hkc hks
  obtain ⟨cC, kC, i1, i2, -, i4, -, -⟩ := Cond.instantiable_spec (mvT (args := args) hZ w5)
  have hpr := Cond.privateMethod_at (mvP (args := args) hZ w2)
  have hsel := selects_self_of_private i1 i2 (Bool.or_eq_false_iff.mp i4).1 hpr (mvT (args := args) hZ w6) hy
  obtain ⟨cq, qa, qb⟩ := (O.exaC hck hK).cell
  obtain ⟨_, _, ⟨T', L', k', n'⟩, -, X', ⟨Lc, hQ, hL, hk, hn⟩, st⟩ := X.privateBack hx (y := y) hown (mvT hZ w1) (mvT hZ w6) hsel hpr (mvT hZ w4) hy (backOf (W := W) (hM h [] O) hZ w4 w3 hf hl) hg hsize (Steps.refl _) (by rw [eT]; exact qa) qb (argsL := as') hlen hs hW hd (fun _ _ => ⟨rfl, eT, hc, hsl⟩)
  dsimp only [Pt.U, Pt.locs, Pt.cells, Pt.slots] at X' hL hk hn st hQ
  subst hL hk hn
  obtain ⟨rfl, N', O'⟩ := hQ
  exact ⟨T', _, _, X', rfl, O', N.app N', fun target k => st.trans k⟩
theorem cloneW (X : Stand p l e R s m args below meth c T locs cells slots) (hx : p.tables.exec = Jvm.exec) (hZ : Z.Warmed39 s.vm) {own ad : String} {index : Nat} {ty : FieldType} (hown : s.vm.findClass own = some m.cls) (had : ad = "[" ++ ty.toString)
    (w1 : (Cond.methodLink own index ⟨ad, "clone", "()Ljava/lang/Object;"⟩).before a0 Z = true) (w2 : (Cond.sameMethod ad "java/lang/Object" "clone" "()Ljava/lang/Object;").before a0 Z = true) (w3 : (Cond.native ⟨"java/lang/Object", "clone", "()Ljava/lang/Object;"⟩).before a0 Z = true)
    (w4 : (Cond.instanceMethod ⟨"java/lang/Object", "clone", "()Ljava/lang/Object;"⟩).before a0 Z = true) (w5 : (Cond.selects ad ⟨ad, "clone", "()Ljava/lang/Object;"⟩ ⟨"java/lang/Object", "clone", "()Ljava/lang/Object;"⟩).before a0 Z = true) (w6 : (Cond.castable ad "java/lang/Cloneable").before a0 Z = true)
    (eT : T.heap = h) (O : Ow K Z h n0 D) (hK : (K t).1 = .array ty) {cap : Nat} (hq : cA' D a t cap = some D') {g : JFrame} (hg : g.method = m) (hsize : g.locals.size = c.maxLocals) {rest : List Value} (hs : g.stack = .ref (n0 + a) :: rest) (hd : decode c.code g.pc = .ok (.invokevirtual index, 3))
    (hf : 1 ≤ R.frames) {W : Nat} (hW : 2 * g.monitorRoom + (rest.map fun v => v.category).sum ≤ W) (hl : W + 14 ≤ R.locals) (hc : cells + 1 ≤ R.cells) (hsl : slots + cap ≤ R.slots) :
    ∃ T' h', Stand p l e R s m args below meth c T' locs (cells + 1) (slots + cap) ∧ T'.heap = h' ∧ Ow K Z h' n0 D' ∧ ∀ target, Steps p.tables e below (T'.setTop { g with pc := g.pc + 3, stack := .ref (n0 + D.length) :: rest }) target → Steps p.tables e below (T.setTop g) target := by
  obtain ⟨vs, h1, h2, rfl⟩ := cA_e hq
  obtain ⟨E, cl, A, hsl', hlen, hfit⟩ := (O.2 a t vs h1).1 ty hK
  rw [← had] at E
  obtain ⟨c2, k, e1, e2, e3, e4, e5⟩ := E
  cases A.1.symm.trans e1
  obtain ⟨c1, cC, g1, g2, g3⟩ := Cond.castable_spec w6
  cases e2.symm.trans g1
  have hal : Z.vm.Alike T.vm := hZ.alike.trans X.warmed.alike
  have hsz : cl.slots.size = vs.length := by rw [hsl', sh_len]
  have hfc : ∀ i v, cl.slots[i]? = some v → Z.fitsSlot cl.cls .none i v = true := fun i v hv => by
    obtain ⟨-, k2, hk2, comp, hkind⟩ := A.2.1
    have e : Z.slotType? cl.cls .none i = some ty := by simp [State.slotType?, hk2, hkind]
    have hv' : ∃ w ∈ vs, sh n0 w = v := by
      rw [hsl'] at hv
      have hm : v ∈ vs.map (sh n0) := by
        have := Array.mem_of_getElem? hv
        simpa using this
      exact List.mem_map.mp hm
    obtain ⟨w, hw, rfl⟩ := hv'
    have hfw : fits ty (sh n0 w) = true := by
      have := hfit w hw
      cases w <;> first | exact this | (cases ty <;> first | (cases this; done) | rfl)
    simpa [State.fitsSlot, e] using hfw
  obtain ⟨vm', X', st⟩ := X.cloneArray hx hown (mv hZ w1) (mv hZ w2) (mv hZ w3) (mv hZ w4) (mv hZ w5) (a := n0 + a) (by rw [eT]; exact A.1) A.2.1.1 A.2.2 (by rw [hZ.alike.findClass]; exact e2) (by rw [hZ.alike.findClass]; exact g2) (by rw [hZ.alike.assignable]; exact g3)
    (fun i v hv => by have q := hfc i v hv; rw [← State.fitsSlot_setVm hal] at q; exact q) hg hsize hs hd hf (by omega) hc (by omega)
    (by obtain ⟨-, k2, hk2, comp, hkind⟩ := A.2.1; rw [hZ.alike.clonesLoader]; exact Vm.clonesLoader_of_array hk2 hkind)
  subst eT
  have hs0 := O.1
  refine ⟨_, _, X'.more (Nat.le_refl _) (by omega), rfl, O.push (h' := T.heap.push _) ⟨by simp, fun a c h => ?_⟩ (by simp) ⟨fun ty' hK' => ?_, fun C hK' => by rw [hK] at hK'; cases hK'⟩, by rw [← hs0]; exact st⟩
  · rw [Array.getElem?_push_lt (Array.getElem?_eq_some_iff.mp h).1]; exact (Array.getElem?_eq_getElem _).symm.trans h
  · cases hK.symm.trans hK'
    rw [← hs0, ← had]
    exact ⟨⟨_, k, Array.getElem?_push_size, e2, e3, rfl, e5⟩, _, ⟨Array.getElem?_push_size, ⟨fun _ z => (by cases z), A.2.1.2⟩, fun z => (by cases z)⟩, hsl', hlen, hfit⟩
theorem castW (X : Stand p l e R s m args below meth c T locs cells slots) (hx : p.tables.exec = Jvm.exec) (hZ : Z.Warmed39 s.vm) {own ad : String} {index : Nat} {ty : FieldType} (hown : s.vm.findClass own = some m.cls) (w : (Cond.classLink own index ad).before a0 Z = true) (had : ad = "[" ++ ty.toString) (eT : T.heap = h) (O : Ow K Z h n0 D) {q : Nat} (hck : ck D a t = some q) (hK : (K t).1 = .array ty)
    {g : JFrame} (hg : g.method = m) {rest : List Value} (hs : g.stack = .ref (n0 + a) :: rest) (hd : decode c.code g.pc = .ok (.checkcast index, 3)) : ∃ T', Stand p l e R s m args below meth c T' locs cells slots ∧ T'.heap = h ∧ ∀ target, Steps p.tables e below (T'.setTop { g with pc := g.pc + 3 }) target → Steps p.tables e below (T.setTop g) target := by
  obtain ⟨vs, h1⟩ := ck_e hck
  obtain ⟨E, -⟩ := (O.2 a t vs h1).1 ty hK
  rw [← had] at E
  exact castY X hx hZ hown w eT (Ins.self E) hg hs hd
end OwnLaws
def Kt1 : Kt := fun k => match k with
  | 0 => ((.array .int), [])
  | 1 => ((.object "com/example/pathweave/pathweave/core/PairIndex"), [("sizes", "[I"), ("sizesBefore", "[I"), ("rowStart", "[I"), ("count", "I")])
  | _ => (.int, [])
theorem lay1 {Z : State} {a0 : Array Value} (hw : ∀ d ∈ tables_1, d.before a0 Z = true) : Lay Kt1 Z a0 := by
  intro t C hC
  match t, hC with
  | 0, hC => cases hC
  | 1, hC =>
    cases hC
    refine ⟨fun q hq => ?_, by decide⟩
    have hq' : q ∈ [(("sizes", "[I") : String × String), (("sizesBefore", "[I") : String × String), (("rowStart", "[I") : String × String), (("count", "I") : String × String)] := hq
    simp only [List.mem_cons, List.not_mem_nil, or_false] at hq'
    rcases hq' with rfl | rfl | rfl | rfl
    · exact ⟨Or.inr (hw _ (List.mem_of_getElem? (i := 45) rfl)), _, (by decide : parseFieldDescriptor _ = some (.array .int))⟩
    · exact ⟨Or.inr (hw _ (List.mem_of_getElem? (i := 47) rfl)), _, (by decide : parseFieldDescriptor _ = some (.array .int))⟩
    · exact ⟨Or.inr (hw _ (List.mem_of_getElem? (i := 49) rfl)), _, (by decide : parseFieldDescriptor _ = some (.array .int))⟩
    · exact ⟨Or.inr (hw _ (List.mem_of_getElem? (i := 51) rfl)), _, (by decide : parseFieldDescriptor _ = some .int)⟩
  | n + 2, hC => cases hC
theorem d1_0 : decode method_3_code 0 = .ok (.iload_n 1, 1) := by decide +kernel
theorem d1_1 : decode method_3_code 1 = .ok (.ifCond .eq 11, 3) := by decide +kernel
theorem d1_4 : decode method_3_code 4 = .ok (.iload_n 0, 1) := by decide +kernel
theorem d1_5 : decode method_3_code 5 = .ok (.iconst 3, 1) := by decide +kernel
theorem d1_6 : decode method_3_code 6 = .ok (.iand, 1) := by decide +kernel
theorem d1_7 : decode method_3_code 7 = .ok (.iconst 1, 1) := by decide +kernel
theorem d1_8 : decode method_3_code 8 = .ok (.iadd, 1) := by decide +kernel
theorem d1_9 : decode method_3_code 9 = .ok (.goto 10, 3) := by decide +kernel
theorem d1_12 : decode method_3_code 12 = .ok (.iload_n 0, 1) := by decide +kernel
theorem d1_13 : decode method_3_code 13 = .ok (.sipush 511, 3) := by decide +kernel
theorem d1_16 : decode method_3_code 16 = .ok (.iand, 1) := by decide +kernel
theorem d1_17 : decode method_3_code 17 = .ok (.iconst 1, 1) := by decide +kernel
theorem d1_18 : decode method_3_code 18 = .ok (.iadd, 1) := by decide +kernel
theorem d1_19 : decode method_3_code 19 = .ok (.ireturn, 1) := by decide +kernel
theorem pn_1 : plainName "com/example/pathweave/pathweave/core/PairIndexLargestTwoPinLaw" = true := by first | (simp [plainName, overriddenIn]; done) | decide +kernel
def f1 (D : Hp) (i0 : Int32) (i1 : Int32) : Option (Int32 × Hp) :=
  if i1 = (0 : Int32) then (some (((i0 &&& (511 : Int32)) + (1 : Int32)), D)) else (some (((i0 &&& (3 : Int32)) + (1 : Int32)), D))
theorem ef_1 (m : MethodId) (i0 : Int32) (i1 : Int32) : entryFrame m #[(.int i0), (.int i1)] 2 = mkF m 0 #[.val (.int i0), .val (.int i1)] [] := by first | (simp [entryFrame, mkF, argsToLocals, Value.category]; done) | rfl
set_option maxRecDepth 65536 in
set_option maxHeartbeats 40000000 in
theorem ct1 {l : Launch} {Z : State} {a0 : Array Value} (hw : ∀ d ∈ tables_1, d.before a0 Z = true) {n0 : Nat} {D D' : Hp} {i0 : Int32} {i1 : Int32} {r : Int32} (hf : f1 D i0 i1 = some (r, D')) :
    Ct Kt1 l Z (⟨"com/example/pathweave/pathweave/core/PairIndexLargestTwoPinLaw", "size", "(IZ)I"⟩ : MethodName) (.code (⟨"com/example/pathweave/pathweave/core/PairIndexLargestTwoPinLaw", "size", "(IZ)I"⟩ : MethodName) method_3_code 2 (some .int)) ({ frames := 0, cells := 0, slots := 0, locals := 0 } : Room) n0 D #[(.int i0), (.int i1)] (some (.int r)) D' := by
  refine Ct.of (plainFor_of_name pn_1) ?_
  intro p e s m below meth c T0 h0 hC X0 e0 O0
  obtain ⟨hx, hZ, hby, hml, hown, hnm, hret, hlk⟩ := id hC
  have hml : c.maxLocals = 2 := hml
  have hown : s.vm.findClass "com/example/pathweave/pathweave/core/PairIndexLargestTwoPinLaw" = some m.cls := hown
  have hnm : meth.name = "size" := hnm
  have N0 := Fr.nil n0
  refine Gl.on (fun t k => castTop (ef_1 m i0 i1) k) ?_
  rw [f1] at hf
  refine Gl.on (B := T0.setTop (mkF m 1 #[.val (.int i0), .val (.int i1)] [(.int i1)])) (fun t k => ?_) ?_
  · show Steps p.tables e below (T0.setTop (mkF m 0 #[.val (.int i0), .val (.int i1)] [])) _
    refine XS.iloadN X0.here hx rfl (hb hby d1_0) rfl ?_
    exact k
  by_cases hc1 : i1 = (0 : Int32)
  · rw [if_pos hc1] at hf
    refine Gl.on (B := T0.setTop (mkF m 19 #[.val (.int i0), .val (.int i1)] [(.int ((i0 &&& (511 : Int32)) + (1 : Int32)))])) (fun t k => ?_) ?_
    · show Steps p.tables e below (T0.setTop (mkF m 1 #[.val (.int i0), .val (.int i1)] [(.int i1)])) _
      refine XS.ifYes X0.here hx rfl (pc0 := 1) (pc' := 12) rfl (hb hby d1_1) rfl ((if0 _ _).trans (teq hc1).1) (by decide) (by decide) ?_
      show Steps p.tables e below (T0.setTop (mkF m 12 #[.val (.int i0), .val (.int i1)] [])) _
      refine XS.iloadN X0.here hx rfl (hb hby d1_12) rfl ?_
      show Steps p.tables e below (T0.setTop (mkF m 13 #[.val (.int i0), .val (.int i1)] [(.int i0)])) _
      refine XS.sipush X0.here hx rfl (hb hby d1_13) ?_
      show Steps p.tables e below (T0.setTop (mkF m 16 #[.val (.int i0), .val (.int i1)] [(.int (511 : Int32)), (.int i0)])) _
      refine XS.iand X0.here hx rfl (hb hby d1_16) rfl ?_
      show Steps p.tables e below (T0.setTop (mkF m 17 #[.val (.int i0), .val (.int i1)] [(.int (i0 &&& (511 : Int32)))])) _
      refine XS.iconst X0.here hx rfl (hb hby d1_17) ?_
      show Steps p.tables e below (T0.setTop (mkF m 18 #[.val (.int i0), .val (.int i1)] [(.int (1 : Int32)), (.int (i0 &&& (511 : Int32)))])) _
      refine XS.iadd X0.here hx rfl (hb hby d1_18) rfl ?_
      exact k
    obtain ⟨rfl, rfl⟩ := own_inj hf
    exact Gl.outI X0 hx hlk hret (hb hby d1_19) ⟨rfl, N0, by rw [e0]; exact O0⟩ (by show _ ≤ 0; omega) (by show _ ≤ 0; omega)
  · rw [if_neg hc1] at hf
    refine Gl.on (B := T0.setTop (mkF m 19 #[.val (.int i0), .val (.int i1)] [(.int ((i0 &&& (3 : Int32)) + (1 : Int32)))])) (fun t k => ?_) ?_
    · show Steps p.tables e below (T0.setTop (mkF m 1 #[.val (.int i0), .val (.int i1)] [(.int i1)])) _
      refine XS.ifNo X0.here hx rfl (hb hby d1_1) rfl ((if0 _ _).trans (feq hc1).1) ?_
      show Steps p.tables e below (T0.setTop (mkF m 4 #[.val (.int i0), .val (.int i1)] [])) _
      refine XS.iloadN X0.here hx rfl (hb hby d1_4) rfl ?_
      show Steps p.tables e below (T0.setTop (mkF m 5 #[.val (.int i0), .val (.int i1)] [(.int i0)])) _
      refine XS.iconst X0.here hx rfl (hb hby d1_5) ?_
      show Steps p.tables e below (T0.setTop (mkF m 6 #[.val (.int i0), .val (.int i1)] [(.int (3 : Int32)), (.int i0)])) _
      refine XS.iand X0.here hx rfl (hb hby d1_6) rfl ?_
      show Steps p.tables e below (T0.setTop (mkF m 7 #[.val (.int i0), .val (.int i1)] [(.int (i0 &&& (3 : Int32)))])) _
      refine XS.iconst X0.here hx rfl (hb hby d1_7) ?_
      show Steps p.tables e below (T0.setTop (mkF m 8 #[.val (.int i0), .val (.int i1)] [(.int (1 : Int32)), (.int (i0 &&& (3 : Int32)))])) _
      refine XS.iadd X0.here hx rfl (hb hby d1_8) rfl ?_
      show Steps p.tables e below (T0.setTop (mkF m 9 #[.val (.int i0), .val (.int i1)] [(.int ((i0 &&& (3 : Int32)) + (1 : Int32)))])) _
      refine XS.goto X0.here hx rfl (pc0 := 9) (pc' := 19) rfl (hb hby d1_9) (by decide) (by decide) ?_
      exact k
    obtain ⟨rfl, rfl⟩ := own_inj hf
    exact Gl.outI X0 hx hlk hret (hb hby d1_19) ⟨rfl, N0, by rw [e0]; exact O0⟩ (by show _ ≤ 0; omega) (by show _ ≤ 0; omega)
theorem d2_0 : decode method_4_code 0 = .ok (.iload_n 0, 1) := by decide +kernel
theorem d2_1 : decode method_4_code 1 = .ok (.iconst 2, 1) := by decide +kernel
theorem d2_2 : decode method_4_code 2 = .ok (.if_icmp .ne 19, 3) := by decide +kernel
theorem d2_5 : decode method_4_code 5 = .ok (.iconst 2, 1) := by decide +kernel
theorem d2_6 : decode method_4_code 6 = .ok (.newarray .int, 2) := by decide +kernel
theorem d2_8 : decode method_4_code 8 = .ok (.dup, 1) := by decide +kernel
theorem d2_9 : decode method_4_code 9 = .ok (.iconst 0, 1) := by decide +kernel
theorem d2_10 : decode method_4_code 10 = .ok (.aload_n 1, 1) := by decide +kernel
theorem d2_11 : decode method_4_code 11 = .ok (.iconst 0, 1) := by decide +kernel
theorem d2_12 : decode method_4_code 12 = .ok (.iaload, 1) := by decide +kernel
theorem d2_13 : decode method_4_code 13 = .ok (.iastore, 1) := by decide +kernel
theorem d2_14 : decode method_4_code 14 = .ok (.dup, 1) := by decide +kernel
theorem d2_15 : decode method_4_code 15 = .ok (.iconst 1, 1) := by decide +kernel
theorem d2_16 : decode method_4_code 16 = .ok (.aload_n 1, 1) := by decide +kernel
theorem d2_17 : decode method_4_code 17 = .ok (.iconst 1, 1) := by decide +kernel
theorem d2_18 : decode method_4_code 18 = .ok (.iaload, 1) := by decide +kernel
theorem d2_19 : decode method_4_code 19 = .ok (.iastore, 1) := by decide +kernel
theorem d2_20 : decode method_4_code 20 = .ok (.areturn, 1) := by decide +kernel
theorem d2_21 : decode method_4_code 21 = .ok (.iload_n 0, 1) := by decide +kernel
theorem d2_22 : decode method_4_code 22 = .ok (.iconst 3, 1) := by decide +kernel
theorem d2_23 : decode method_4_code 23 = .ok (.if_icmp .ne 25, 3) := by decide +kernel
theorem d2_26 : decode method_4_code 26 = .ok (.iconst 3, 1) := by decide +kernel
theorem d2_27 : decode method_4_code 27 = .ok (.newarray .int, 2) := by decide +kernel
theorem d2_29 : decode method_4_code 29 = .ok (.dup, 1) := by decide +kernel
theorem d2_30 : decode method_4_code 30 = .ok (.iconst 0, 1) := by decide +kernel
theorem d2_31 : decode method_4_code 31 = .ok (.aload_n 1, 1) := by decide +kernel
theorem d2_32 : decode method_4_code 32 = .ok (.iconst 0, 1) := by decide +kernel
theorem d2_33 : decode method_4_code 33 = .ok (.iaload, 1) := by decide +kernel
theorem d2_34 : decode method_4_code 34 = .ok (.iastore, 1) := by decide +kernel
theorem d2_35 : decode method_4_code 35 = .ok (.dup, 1) := by decide +kernel
theorem d2_36 : decode method_4_code 36 = .ok (.iconst 1, 1) := by decide +kernel
theorem d2_37 : decode method_4_code 37 = .ok (.aload_n 1, 1) := by decide +kernel
theorem d2_38 : decode method_4_code 38 = .ok (.iconst 1, 1) := by decide +kernel
theorem d2_39 : decode method_4_code 39 = .ok (.iaload, 1) := by decide +kernel
theorem d2_40 : decode method_4_code 40 = .ok (.iastore, 1) := by decide +kernel
theorem d2_41 : decode method_4_code 41 = .ok (.dup, 1) := by decide +kernel
theorem d2_42 : decode method_4_code 42 = .ok (.iconst 2, 1) := by decide +kernel
theorem d2_43 : decode method_4_code 43 = .ok (.aload_n 1, 1) := by decide +kernel
theorem d2_44 : decode method_4_code 44 = .ok (.iconst 2, 1) := by decide +kernel
theorem d2_45 : decode method_4_code 45 = .ok (.iaload, 1) := by decide +kernel
theorem d2_46 : decode method_4_code 46 = .ok (.iastore, 1) := by decide +kernel
theorem d2_47 : decode method_4_code 47 = .ok (.areturn, 1) := by decide +kernel
theorem d2_48 : decode method_4_code 48 = .ok (.iload_n 0, 1) := by decide +kernel
theorem d2_49 : decode method_4_code 49 = .ok (.iconst 4, 1) := by decide +kernel
theorem d2_50 : decode method_4_code 50 = .ok (.if_icmp .ne 31, 3) := by decide +kernel
theorem d2_53 : decode method_4_code 53 = .ok (.iconst 4, 1) := by decide +kernel
theorem d2_54 : decode method_4_code 54 = .ok (.newarray .int, 2) := by decide +kernel
theorem d2_56 : decode method_4_code 56 = .ok (.dup, 1) := by decide +kernel
theorem d2_57 : decode method_4_code 57 = .ok (.iconst 0, 1) := by decide +kernel
theorem d2_58 : decode method_4_code 58 = .ok (.aload_n 1, 1) := by decide +kernel
theorem d2_59 : decode method_4_code 59 = .ok (.iconst 0, 1) := by decide +kernel
theorem d2_60 : decode method_4_code 60 = .ok (.iaload, 1) := by decide +kernel
theorem d2_61 : decode method_4_code 61 = .ok (.iastore, 1) := by decide +kernel
theorem d2_62 : decode method_4_code 62 = .ok (.dup, 1) := by decide +kernel
theorem d2_63 : decode method_4_code 63 = .ok (.iconst 1, 1) := by decide +kernel
theorem d2_64 : decode method_4_code 64 = .ok (.aload_n 1, 1) := by decide +kernel
theorem d2_65 : decode method_4_code 65 = .ok (.iconst 1, 1) := by decide +kernel
theorem d2_66 : decode method_4_code 66 = .ok (.iaload, 1) := by decide +kernel
theorem d2_67 : decode method_4_code 67 = .ok (.iastore, 1) := by decide +kernel
theorem d2_68 : decode method_4_code 68 = .ok (.dup, 1) := by decide +kernel
theorem d2_69 : decode method_4_code 69 = .ok (.iconst 2, 1) := by decide +kernel
theorem d2_70 : decode method_4_code 70 = .ok (.aload_n 1, 1) := by decide +kernel
theorem d2_71 : decode method_4_code 71 = .ok (.iconst 2, 1) := by decide +kernel
theorem d2_72 : decode method_4_code 72 = .ok (.iaload, 1) := by decide +kernel
theorem d2_73 : decode method_4_code 73 = .ok (.iastore, 1) := by decide +kernel
theorem d2_74 : decode method_4_code 74 = .ok (.dup, 1) := by decide +kernel
theorem d2_75 : decode method_4_code 75 = .ok (.iconst 3, 1) := by decide +kernel
theorem d2_76 : decode method_4_code 76 = .ok (.aload_n 1, 1) := by decide +kernel
theorem d2_77 : decode method_4_code 77 = .ok (.iconst 3, 1) := by decide +kernel
theorem d2_78 : decode method_4_code 78 = .ok (.iaload, 1) := by decide +kernel
theorem d2_79 : decode method_4_code 79 = .ok (.iastore, 1) := by decide +kernel
theorem d2_80 : decode method_4_code 80 = .ok (.areturn, 1) := by decide +kernel
theorem d2_81 : decode method_4_code 81 = .ok (.iconst 5, 1) := by decide +kernel
theorem d2_82 : decode method_4_code 82 = .ok (.newarray .int, 2) := by decide +kernel
theorem d2_84 : decode method_4_code 84 = .ok (.dup, 1) := by decide +kernel
theorem d2_85 : decode method_4_code 85 = .ok (.iconst 0, 1) := by decide +kernel
theorem d2_86 : decode method_4_code 86 = .ok (.aload_n 1, 1) := by decide +kernel
theorem d2_87 : decode method_4_code 87 = .ok (.iconst 0, 1) := by decide +kernel
theorem d2_88 : decode method_4_code 88 = .ok (.iaload, 1) := by decide +kernel
theorem d2_89 : decode method_4_code 89 = .ok (.iastore, 1) := by decide +kernel
theorem d2_90 : decode method_4_code 90 = .ok (.dup, 1) := by decide +kernel
theorem d2_91 : decode method_4_code 91 = .ok (.iconst 1, 1) := by decide +kernel
theorem d2_92 : decode method_4_code 92 = .ok (.aload_n 1, 1) := by decide +kernel
theorem d2_93 : decode method_4_code 93 = .ok (.iconst 1, 1) := by decide +kernel
theorem d2_94 : decode method_4_code 94 = .ok (.iaload, 1) := by decide +kernel
theorem d2_95 : decode method_4_code 95 = .ok (.iastore, 1) := by decide +kernel
theorem d2_96 : decode method_4_code 96 = .ok (.dup, 1) := by decide +kernel
theorem d2_97 : decode method_4_code 97 = .ok (.iconst 2, 1) := by decide +kernel
theorem d2_98 : decode method_4_code 98 = .ok (.aload_n 1, 1) := by decide +kernel
theorem d2_99 : decode method_4_code 99 = .ok (.iconst 2, 1) := by decide +kernel
theorem d2_100 : decode method_4_code 100 = .ok (.iaload, 1) := by decide +kernel
theorem d2_101 : decode method_4_code 101 = .ok (.iastore, 1) := by decide +kernel
theorem d2_102 : decode method_4_code 102 = .ok (.dup, 1) := by decide +kernel
theorem d2_103 : decode method_4_code 103 = .ok (.iconst 3, 1) := by decide +kernel
theorem d2_104 : decode method_4_code 104 = .ok (.aload_n 1, 1) := by decide +kernel
theorem d2_105 : decode method_4_code 105 = .ok (.iconst 3, 1) := by decide +kernel
theorem d2_106 : decode method_4_code 106 = .ok (.iaload, 1) := by decide +kernel
theorem d2_107 : decode method_4_code 107 = .ok (.iastore, 1) := by decide +kernel
theorem d2_108 : decode method_4_code 108 = .ok (.dup, 1) := by decide +kernel
theorem d2_109 : decode method_4_code 109 = .ok (.iconst 4, 1) := by decide +kernel
theorem d2_110 : decode method_4_code 110 = .ok (.aload_n 1, 1) := by decide +kernel
theorem d2_111 : decode method_4_code 111 = .ok (.iconst 4, 1) := by decide +kernel
theorem d2_112 : decode method_4_code 112 = .ok (.iaload, 1) := by decide +kernel
theorem d2_113 : decode method_4_code 113 = .ok (.iastore, 1) := by decide +kernel
theorem d2_114 : decode method_4_code 114 = .ok (.areturn, 1) := by decide +kernel
theorem pn_2 : plainName "com/example/pathweave/pathweave/core/PairIndexLargestTwoPinLaw" = true := by first | (simp [plainName, overriddenIn]; done) | decide +kernel
def f2 (D : Hp) (i0 : Int32) (ob1 : Nat) : Option (Nat × Hp) :=
  if i0 = (2 : Int32) then (own_let (D.length) fun a2 => (nA D 0 (2 : Int32) 2 (.int (0 : Int32))).bind fun D2 =>
  (rI D2 ob1 0 (0 : Int32)).bind fun x3 =>
  (wV D2 a2 0 (0 : Int32) (.int x3)).bind fun D4 =>
  (rI D4 ob1 0 (1 : Int32)).bind fun x5 =>
  (wV D4 a2 0 (1 : Int32) (.int x5)).bind fun D6 =>
  some (a2, D6)) else (if i0 = (3 : Int32) then (own_let (D.length) fun a8 => (nA D 0 (3 : Int32) 3 (.int (0 : Int32))).bind fun D8 =>
  (rI D8 ob1 0 (0 : Int32)).bind fun x9 =>
  (wV D8 a8 0 (0 : Int32) (.int x9)).bind fun D10 =>
  (rI D10 ob1 0 (1 : Int32)).bind fun x11 =>
  (wV D10 a8 0 (1 : Int32) (.int x11)).bind fun D12 =>
  (rI D12 ob1 0 (2 : Int32)).bind fun x13 =>
  (wV D12 a8 0 (2 : Int32) (.int x13)).bind fun D14 =>
  some (a8, D14)) else (if i0 = (4 : Int32) then (own_let (D.length) fun a16 => (nA D 0 (4 : Int32) 4 (.int (0 : Int32))).bind fun D16 =>
  (rI D16 ob1 0 (0 : Int32)).bind fun x17 =>
  (wV D16 a16 0 (0 : Int32) (.int x17)).bind fun D18 =>
  (rI D18 ob1 0 (1 : Int32)).bind fun x19 =>
  (wV D18 a16 0 (1 : Int32) (.int x19)).bind fun D20 =>
  (rI D20 ob1 0 (2 : Int32)).bind fun x21 =>
  (wV D20 a16 0 (2 : Int32) (.int x21)).bind fun D22 =>
  (rI D22 ob1 0 (3 : Int32)).bind fun x23 =>
  (wV D22 a16 0 (3 : Int32) (.int x23)).bind fun D24 =>
  some (a16, D24)) else (own_let (D.length) fun a25 => (nA D 0 (5 : Int32) 5 (.int (0 : Int32))).bind fun D25 =>
  (rI D25 ob1 0 (0 : Int32)).bind fun x26 =>
  (wV D25 a25 0 (0 : Int32) (.int x26)).bind fun D27 =>
  (rI D27 ob1 0 (1 : Int32)).bind fun x28 =>
  (wV D27 a25 0 (1 : Int32) (.int x28)).bind fun D29 =>
  (rI D29 ob1 0 (2 : Int32)).bind fun x30 =>
  (wV D29 a25 0 (2 : Int32) (.int x30)).bind fun D31 =>
  (rI D31 ob1 0 (3 : Int32)).bind fun x32 =>
  (wV D31 a25 0 (3 : Int32) (.int x32)).bind fun D33 =>
  (rI D33 ob1 0 (4 : Int32)).bind fun x34 =>
  (wV D33 a25 0 (4 : Int32) (.int x34)).bind fun D35 =>
  some (a25, D35))))
theorem ef_2 (m : MethodId) (n0 : Nat) (i0 : Int32) (ob1 : Nat) : entryFrame m #[(.int i0), (.ref (n0 + ob1))] 2 = mkF m 0 #[.val (.int i0), .val (.ref (n0 + ob1))] [] := by first | (simp [entryFrame, mkF, argsToLocals, Value.category]; done) | rfl
set_option maxRecDepth 65536 in
set_option maxHeartbeats 40000000 in
theorem ct2 {l : Launch} {Z : State} {a0 : Array Value} (hw : ∀ d ∈ tables_1, d.before a0 Z = true) {n0 : Nat} {D D' : Hp} {i0 : Int32} {ob1 : Nat} {r : Nat} (hf : f2 D i0 ob1 = some (r, D')) :
    Ct Kt1 l Z (⟨"com/example/pathweave/pathweave/core/PairIndexLargestTwoPinLaw", "make", "(I[I)[I"⟩ : MethodName) (.code (⟨"com/example/pathweave/pathweave/core/PairIndexLargestTwoPinLaw", "make", "(I[I)[I"⟩ : MethodName) method_4_code 2 (some (.array .int))) ({ frames := 0, cells := 1, slots := 5, locals := 0 } : Room) n0 D #[(.int i0), (.ref (n0 + ob1))] (some (.ref (n0 + r))) D' := by
  refine Ct.of (plainFor_of_name pn_2) ?_
  intro p e s m below meth c T0 h0 hC X0 e0 O0
  obtain ⟨hx, hZ, hby, hml, hown, hnm, hret, hlk⟩ := id hC
  have hml : c.maxLocals = 2 := hml
  have hown : s.vm.findClass "com/example/pathweave/pathweave/core/PairIndexLargestTwoPinLaw" = some m.cls := hown
  have hnm : meth.name = "make" := hnm
  have N0 := Fr.nil n0
  refine Gl.on (fun t k => castTop (ef_2 m n0 i0 ob1) k) ?_
  rw [f2] at hf
  refine Gl.on (B := T0.setTop (mkF m 2 #[.val (.int i0), .val (.ref (n0 + ob1))] [(.int (2 : Int32)), (.int i0)])) (fun t k => ?_) ?_
  · show Steps p.tables e below (T0.setTop (mkF m 0 #[.val (.int i0), .val (.ref (n0 + ob1))] [])) _
    refine XS.iloadN X0.here hx rfl (hb hby d2_0) rfl ?_
    show Steps p.tables e below (T0.setTop (mkF m 1 #[.val (.int i0), .val (.ref (n0 + ob1))] [(.int i0)])) _
    refine XS.iconst X0.here hx rfl (hb hby d2_1) ?_
    exact k
  by_cases hc1 : i0 = (2 : Int32)
  · rw [if_pos hc1] at hf
    obtain ⟨a2, ha2, hf⟩ := own_letE hf
    obtain ⟨D2, hD2, hf⟩ := own_bind hf
    obtain ⟨T2, h2, X2, e2, O2, st2⟩ := newAW X0 hx hZ (aty := .int) (hw _ (List.mem_of_getElem? (i := 0) rfl)) e0 O0 rfl rfl hD2 (g := (mkF m 6 #[.val (.int i0), .val (.ref (n0 + ob1))] [(.int (2 : Int32))])) rfl (hb hby d2_6) rfl (by decide) (by show _ + 1 ≤ 1; omega) (by show _ + 2 ≤ 5; omega)
    rw [ha2] at st2
    obtain ⟨x3, hx3, hf⟩ := own_bind hf
    obtain ⟨D4, hq4, hf⟩ := own_bind hf
    obtain ⟨T4, h4, L4, X4, e4, O4, N4, st4⟩ := stIW X2 hx hZ e2 O2 N0 hq4 rfl (g := (mkF m 13 #[.val (.int i0), .val (.ref (n0 + ob1))] [(.int x3), (.int (0 : Int32)), (.ref (n0 + a2)), (.ref (n0 + a2))])) rfl rfl (hb hby d2_13)
    obtain ⟨x5, hx5, hf⟩ := own_bind hf
    obtain ⟨D6, hq6, hf⟩ := own_bind hf
    obtain ⟨T6, h6, L6, X6, e6, O6, N6, st6⟩ := stIW X4 hx hZ e4 O4 N4 hq6 rfl (g := (mkF m 19 #[.val (.int i0), .val (.ref (n0 + ob1))] [(.int x5), (.int (1 : Int32)), (.ref (n0 + a2)), (.ref (n0 + a2))])) rfl rfl (hb hby d2_19)
    refine Gl.on (B := T6.setTop (mkF m 20 #[.val (.int i0), .val (.ref (n0 + ob1))] [(.ref (n0 + a2))])) (fun t k => ?_) ?_
    · show Steps p.tables e below (T0.setTop (mkF m 2 #[.val (.int i0), .val (.ref (n0 + ob1))] [(.int (2 : Int32)), (.int i0)])) _
      refine XS.icmpNo X0.here hx rfl (hb hby d2_2) rfl (teq hc1).2 ?_
      show Steps p.tables e below (T0.setTop (mkF m 5 #[.val (.int i0), .val (.ref (n0 + ob1))] [])) _
      refine XS.iconst X0.here hx rfl (hb hby d2_5) ?_
      show Steps p.tables e below (T0.setTop (mkF m 6 #[.val (.int i0), .val (.ref (n0 + ob1))] [(.int (2 : Int32))])) _
      refine st2 _ ?_
      show Steps p.tables e below (T2.setTop (mkF m 8 #[.val (.int i0), .val (.ref (n0 + ob1))] [(.ref (n0 + a2))])) _
      refine XS.dup X2.here hx rfl (hb hby d2_8) rfl rfl ?_
      show Steps p.tables e below (T2.setTop (mkF m 9 #[.val (.int i0), .val (.ref (n0 + ob1))] [(.ref (n0 + a2)), (.ref (n0 + a2))])) _
      refine XS.iconst X2.here hx rfl (hb hby d2_9) ?_
      show Steps p.tables e below (T2.setTop (mkF m 10 #[.val (.int i0), .val (.ref (n0 + ob1))] [(.int (0 : Int32)), (.ref (n0 + a2)), (.ref (n0 + a2))])) _
      refine XS.aloadN X2.here hx rfl (hb hby d2_10) rfl rfl ?_
      show Steps p.tables e below (T2.setTop (mkF m 11 #[.val (.int i0), .val (.ref (n0 + ob1))] [(.ref (n0 + ob1)), (.int (0 : Int32)), (.ref (n0 + a2)), (.ref (n0 + a2))])) _
      refine XS.iconst X2.here hx rfl (hb hby d2_11) ?_
      show Steps p.tables e below (T2.setTop (mkF m 12 #[.val (.int i0), .val (.ref (n0 + ob1))] [(.int (0 : Int32)), (.ref (n0 + ob1)), (.int (0 : Int32)), (.ref (n0 + a2)), (.ref (n0 + a2))])) _
      refine ldW X2 hx hZ e2 O2 hx3 rfl (g := (mkF m 12 #[.val (.int i0), .val (.ref (n0 + ob1))] [(.int (0 : Int32)), (.ref (n0 + ob1)), (.int (0 : Int32)), (.ref (n0 + a2)), (.ref (n0 + a2))])) rfl rfl (hb hby d2_12) _ ?_
      show Steps p.tables e below (T2.setTop (mkF m 13 #[.val (.int i0), .val (.ref (n0 + ob1))] [(.int x3), (.int (0 : Int32)), (.ref (n0 + a2)), (.ref (n0 + a2))])) _
      refine st4 _ ?_
      show Steps p.tables e below (T4.setTop (mkF m 14 #[.val (.int i0), .val (.ref (n0 + ob1))] [(.ref (n0 + a2))])) _
      refine XS.dup X4.here hx rfl (hb hby d2_14) rfl rfl ?_
      show Steps p.tables e below (T4.setTop (mkF m 15 #[.val (.int i0), .val (.ref (n0 + ob1))] [(.ref (n0 + a2)), (.ref (n0 + a2))])) _
      refine XS.iconst X4.here hx rfl (hb hby d2_15) ?_
      show Steps p.tables e below (T4.setTop (mkF m 16 #[.val (.int i0), .val (.ref (n0 + ob1))] [(.int (1 : Int32)), (.ref (n0 + a2)), (.ref (n0 + a2))])) _
      refine XS.aloadN X4.here hx rfl (hb hby d2_16) rfl rfl ?_
      show Steps p.tables e below (T4.setTop (mkF m 17 #[.val (.int i0), .val (.ref (n0 + ob1))] [(.ref (n0 + ob1)), (.int (1 : Int32)), (.ref (n0 + a2)), (.ref (n0 + a2))])) _
      refine XS.iconst X4.here hx rfl (hb hby d2_17) ?_
      show Steps p.tables e below (T4.setTop (mkF m 18 #[.val (.int i0), .val (.ref (n0 + ob1))] [(.int (1 : Int32)), (.ref (n0 + ob1)), (.int (1 : Int32)), (.ref (n0 + a2)), (.ref (n0 + a2))])) _
      refine ldW X4 hx hZ e4 O4 hx5 rfl (g := (mkF m 18 #[.val (.int i0), .val (.ref (n0 + ob1))] [(.int (1 : Int32)), (.ref (n0 + ob1)), (.int (1 : Int32)), (.ref (n0 + a2)), (.ref (n0 + a2))])) rfl rfl (hb hby d2_18) _ ?_
      show Steps p.tables e below (T4.setTop (mkF m 19 #[.val (.int i0), .val (.ref (n0 + ob1))] [(.int x5), (.int (1 : Int32)), (.ref (n0 + a2)), (.ref (n0 + a2))])) _
      refine st6 _ ?_
      exact k
    obtain ⟨rfl, rfl⟩ := own_inj hf
    exact Gl.outR X6 hx hlk hret rfl (hb hby d2_20) ⟨rfl, N6, by rw [e6]; exact O6⟩ (by show _ ≤ 1; omega) (by show _ ≤ 5; omega)
  · rw [if_neg hc1] at hf
    refine Gl.on (B := T0.setTop (mkF m 23 #[.val (.int i0), .val (.ref (n0 + ob1))] [(.int (3 : Int32)), (.int i0)])) (fun t k => ?_) ?_
    · show Steps p.tables e below (T0.setTop (mkF m 2 #[.val (.int i0), .val (.ref (n0 + ob1))] [(.int (2 : Int32)), (.int i0)])) _
      refine XS.icmpYes X0.here hx rfl (pc0 := 2) (pc' := 21) rfl (hb hby d2_2) rfl (feq hc1).2 (by decide) (by decide) ?_
      show Steps p.tables e below (T0.setTop (mkF m 21 #[.val (.int i0), .val (.ref (n0 + ob1))] [])) _
      refine XS.iloadN X0.here hx rfl (hb hby d2_21) rfl ?_
      show Steps p.tables e below (T0.setTop (mkF m 22 #[.val (.int i0), .val (.ref (n0 + ob1))] [(.int i0)])) _
      refine XS.iconst X0.here hx rfl (hb hby d2_22) ?_
      exact k
    by_cases hc7 : i0 = (3 : Int32)
    · rw [if_pos hc7] at hf
      obtain ⟨a8, ha8, hf⟩ := own_letE hf
      obtain ⟨D8, hD8, hf⟩ := own_bind hf
      obtain ⟨T8, h8, X8, e8, O8, st8⟩ := newAW X0 hx hZ (aty := .int) (hw _ (List.mem_of_getElem? (i := 0) rfl)) e0 O0 rfl rfl hD8 (g := (mkF m 27 #[.val (.int i0), .val (.ref (n0 + ob1))] [(.int (3 : Int32))])) rfl (hb hby d2_27) rfl (by decide) (by show _ + 1 ≤ 1; omega) (by show _ + 3 ≤ 5; omega)
      rw [ha8] at st8
      obtain ⟨x9, hx9, hf⟩ := own_bind hf
      obtain ⟨D10, hq10, hf⟩ := own_bind hf
      obtain ⟨T10, h10, L10, X10, e10, O10, N10, st10⟩ := stIW X8 hx hZ e8 O8 N0 hq10 rfl (g := (mkF m 34 #[.val (.int i0), .val (.ref (n0 + ob1))] [(.int x9), (.int (0 : Int32)), (.ref (n0 + a8)), (.ref (n0 + a8))])) rfl rfl (hb hby d2_34)
      obtain ⟨x11, hx11, hf⟩ := own_bind hf
      obtain ⟨D12, hq12, hf⟩ := own_bind hf
      obtain ⟨T12, h12, L12, X12, e12, O12, N12, st12⟩ := stIW X10 hx hZ e10 O10 N10 hq12 rfl (g := (mkF m 40 #[.val (.int i0), .val (.ref (n0 + ob1))] [(.int x11), (.int (1 : Int32)), (.ref (n0 + a8)), (.ref (n0 + a8))])) rfl rfl (hb hby d2_40)
      obtain ⟨x13, hx13, hf⟩ := own_bind hf
      obtain ⟨D14, hq14, hf⟩ := own_bind hf
      obtain ⟨T14, h14, L14, X14, e14, O14, N14, st14⟩ := stIW X12 hx hZ e12 O12 N12 hq14 rfl (g := (mkF m 46 #[.val (.int i0), .val (.ref (n0 + ob1))] [(.int x13), (.int (2 : Int32)), (.ref (n0 + a8)), (.ref (n0 + a8))])) rfl rfl (hb hby d2_46)
      refine Gl.on (B := T14.setTop (mkF m 47 #[.val (.int i0), .val (.ref (n0 + ob1))] [(.ref (n0 + a8))])) (fun t k => ?_) ?_
      · show Steps p.tables e below (T0.setTop (mkF m 23 #[.val (.int i0), .val (.ref (n0 + ob1))] [(.int (3 : Int32)), (.int i0)])) _
        refine XS.icmpNo X0.here hx rfl (hb hby d2_23) rfl (teq hc7).2 ?_
        show Steps p.tables e below (T0.setTop (mkF m 26 #[.val (.int i0), .val (.ref (n0 + ob1))] [])) _
        refine XS.iconst X0.here hx rfl (hb hby d2_26) ?_
        show Steps p.tables e below (T0.setTop (mkF m 27 #[.val (.int i0), .val (.ref (n0 + ob1))] [(.int (3 : Int32))])) _
        refine st8 _ ?_
        show Steps p.tables e below (T8.setTop (mkF m 29 #[.val (.int i0), .val (.ref (n0 + ob1))] [(.ref (n0 + a8))])) _
        refine XS.dup X8.here hx rfl (hb hby d2_29) rfl rfl ?_
        show Steps p.tables e below (T8.setTop (mkF m 30 #[.val (.int i0), .val (.ref (n0 + ob1))] [(.ref (n0 + a8)), (.ref (n0 + a8))])) _
        refine XS.iconst X8.here hx rfl (hb hby d2_30) ?_
        show Steps p.tables e below (T8.setTop (mkF m 31 #[.val (.int i0), .val (.ref (n0 + ob1))] [(.int (0 : Int32)), (.ref (n0 + a8)), (.ref (n0 + a8))])) _
        refine XS.aloadN X8.here hx rfl (hb hby d2_31) rfl rfl ?_
        show Steps p.tables e below (T8.setTop (mkF m 32 #[.val (.int i0), .val (.ref (n0 + ob1))] [(.ref (n0 + ob1)), (.int (0 : Int32)), (.ref (n0 + a8)), (.ref (n0 + a8))])) _
        refine XS.iconst X8.here hx rfl (hb hby d2_32) ?_
        show Steps p.tables e below (T8.setTop (mkF m 33 #[.val (.int i0), .val (.ref (n0 + ob1))] [(.int (0 : Int32)), (.ref (n0 + ob1)), (.int (0 : Int32)), (.ref (n0 + a8)), (.ref (n0 + a8))])) _
        refine ldW X8 hx hZ e8 O8 hx9 rfl (g := (mkF m 33 #[.val (.int i0), .val (.ref (n0 + ob1))] [(.int (0 : Int32)), (.ref (n0 + ob1)), (.int (0 : Int32)), (.ref (n0 + a8)), (.ref (n0 + a8))])) rfl rfl (hb hby d2_33) _ ?_
        show Steps p.tables e below (T8.setTop (mkF m 34 #[.val (.int i0), .val (.ref (n0 + ob1))] [(.int x9), (.int (0 : Int32)), (.ref (n0 + a8)), (.ref (n0 + a8))])) _
        refine st10 _ ?_
        show Steps p.tables e below (T10.setTop (mkF m 35 #[.val (.int i0), .val (.ref (n0 + ob1))] [(.ref (n0 + a8))])) _
        refine XS.dup X10.here hx rfl (hb hby d2_35) rfl rfl ?_
        show Steps p.tables e below (T10.setTop (mkF m 36 #[.val (.int i0), .val (.ref (n0 + ob1))] [(.ref (n0 + a8)), (.ref (n0 + a8))])) _
        refine XS.iconst X10.here hx rfl (hb hby d2_36) ?_
        show Steps p.tables e below (T10.setTop (mkF m 37 #[.val (.int i0), .val (.ref (n0 + ob1))] [(.int (1 : Int32)), (.ref (n0 + a8)), (.ref (n0 + a8))])) _
        refine XS.aloadN X10.here hx rfl (hb hby d2_37) rfl rfl ?_
        show Steps p.tables e below (T10.setTop (mkF m 38 #[.val (.int i0), .val (.ref (n0 + ob1))] [(.ref (n0 + ob1)), (.int (1 : Int32)), (.ref (n0 + a8)), (.ref (n0 + a8))])) _
        refine XS.iconst X10.here hx rfl (hb hby d2_38) ?_
        show Steps p.tables e below (T10.setTop (mkF m 39 #[.val (.int i0), .val (.ref (n0 + ob1))] [(.int (1 : Int32)), (.ref (n0 + ob1)), (.int (1 : Int32)), (.ref (n0 + a8)), (.ref (n0 + a8))])) _
        refine ldW X10 hx hZ e10 O10 hx11 rfl (g := (mkF m 39 #[.val (.int i0), .val (.ref (n0 + ob1))] [(.int (1 : Int32)), (.ref (n0 + ob1)), (.int (1 : Int32)), (.ref (n0 + a8)), (.ref (n0 + a8))])) rfl rfl (hb hby d2_39) _ ?_
        show Steps p.tables e below (T10.setTop (mkF m 40 #[.val (.int i0), .val (.ref (n0 + ob1))] [(.int x11), (.int (1 : Int32)), (.ref (n0 + a8)), (.ref (n0 + a8))])) _
        refine st12 _ ?_
        show Steps p.tables e below (T12.setTop (mkF m 41 #[.val (.int i0), .val (.ref (n0 + ob1))] [(.ref (n0 + a8))])) _
        refine XS.dup X12.here hx rfl (hb hby d2_41) rfl rfl ?_
        show Steps p.tables e below (T12.setTop (mkF m 42 #[.val (.int i0), .val (.ref (n0 + ob1))] [(.ref (n0 + a8)), (.ref (n0 + a8))])) _
        refine XS.iconst X12.here hx rfl (hb hby d2_42) ?_
        show Steps p.tables e below (T12.setTop (mkF m 43 #[.val (.int i0), .val (.ref (n0 + ob1))] [(.int (2 : Int32)), (.ref (n0 + a8)), (.ref (n0 + a8))])) _
        refine XS.aloadN X12.here hx rfl (hb hby d2_43) rfl rfl ?_
        show Steps p.tables e below (T12.setTop (mkF m 44 #[.val (.int i0), .val (.ref (n0 + ob1))] [(.ref (n0 + ob1)), (.int (2 : Int32)), (.ref (n0 + a8)), (.ref (n0 + a8))])) _
        refine XS.iconst X12.here hx rfl (hb hby d2_44) ?_
        show Steps p.tables e below (T12.setTop (mkF m 45 #[.val (.int i0), .val (.ref (n0 + ob1))] [(.int (2 : Int32)), (.ref (n0 + ob1)), (.int (2 : Int32)), (.ref (n0 + a8)), (.ref (n0 + a8))])) _
        refine ldW X12 hx hZ e12 O12 hx13 rfl (g := (mkF m 45 #[.val (.int i0), .val (.ref (n0 + ob1))] [(.int (2 : Int32)), (.ref (n0 + ob1)), (.int (2 : Int32)), (.ref (n0 + a8)), (.ref (n0 + a8))])) rfl rfl (hb hby d2_45) _ ?_
        show Steps p.tables e below (T12.setTop (mkF m 46 #[.val (.int i0), .val (.ref (n0 + ob1))] [(.int x13), (.int (2 : Int32)), (.ref (n0 + a8)), (.ref (n0 + a8))])) _
        refine st14 _ ?_
        exact k
      obtain ⟨rfl, rfl⟩ := own_inj hf
      exact Gl.outR X14 hx hlk hret rfl (hb hby d2_47) ⟨rfl, N14, by rw [e14]; exact O14⟩ (by show _ ≤ 1; omega) (by show _ ≤ 5; omega)
    · rw [if_neg hc7] at hf
      refine Gl.on (B := T0.setTop (mkF m 50 #[.val (.int i0), .val (.ref (n0 + ob1))] [(.int (4 : Int32)), (.int i0)])) (fun t k => ?_) ?_
      · show Steps p.tables e below (T0.setTop (mkF m 23 #[.val (.int i0), .val (.ref (n0 + ob1))] [(.int (3 : Int32)), (.int i0)])) _
        refine XS.icmpYes X0.here hx rfl (pc0 := 23) (pc' := 48) rfl (hb hby d2_23) rfl (feq hc7).2 (by decide) (by decide) ?_
        show Steps p.tables e below (T0.setTop (mkF m 48 #[.val (.int i0), .val (.ref (n0 + ob1))] [])) _
        refine XS.iloadN X0.here hx rfl (hb hby d2_48) rfl ?_
        show Steps p.tables e below (T0.setTop (mkF m 49 #[.val (.int i0), .val (.ref (n0 + ob1))] [(.int i0)])) _
        refine XS.iconst X0.here hx rfl (hb hby d2_49) ?_
        exact k
      by_cases hc15 : i0 = (4 : Int32)
      · rw [if_pos hc15] at hf
        obtain ⟨a16, ha16, hf⟩ := own_letE hf
        obtain ⟨D16, hD16, hf⟩ := own_bind hf
        obtain ⟨T16, h16, X16, e16, O16, st16⟩ := newAW X0 hx hZ (aty := .int) (hw _ (List.mem_of_getElem? (i := 0) rfl)) e0 O0 rfl rfl hD16 (g := (mkF m 54 #[.val (.int i0), .val (.ref (n0 + ob1))] [(.int (4 : Int32))])) rfl (hb hby d2_54) rfl (by decide) (by show _ + 1 ≤ 1; omega) (by show _ + 4 ≤ 5; omega)
        rw [ha16] at st16
        obtain ⟨x17, hx17, hf⟩ := own_bind hf
        obtain ⟨D18, hq18, hf⟩ := own_bind hf
        obtain ⟨T18, h18, L18, X18, e18, O18, N18, st18⟩ := stIW X16 hx hZ e16 O16 N0 hq18 rfl (g := (mkF m 61 #[.val (.int i0), .val (.ref (n0 + ob1))] [(.int x17), (.int (0 : Int32)), (.ref (n0 + a16)), (.ref (n0 + a16))])) rfl rfl (hb hby d2_61)
        obtain ⟨x19, hx19, hf⟩ := own_bind hf
        obtain ⟨D20, hq20, hf⟩ := own_bind hf
        obtain ⟨T20, h20, L20, X20, e20, O20, N20, st20⟩ := stIW X18 hx hZ e18 O18 N18 hq20 rfl (g := (mkF m 67 #[.val (.int i0), .val (.ref (n0 + ob1))] [(.int x19), (.int (1 : Int32)), (.ref (n0 + a16)), (.ref (n0 + a16))])) rfl rfl (hb hby d2_67)
        obtain ⟨x21, hx21, hf⟩ := own_bind hf
        obtain ⟨D22, hq22, hf⟩ := own_bind hf
        obtain ⟨T22, h22, L22, X22, e22, O22, N22, st22⟩ := stIW X20 hx hZ e20 O20 N20 hq22 rfl (g := (mkF m 73 #[.val (.int i0), .val (.ref (n0 + ob1))] [(.int x21), (.int (2 : Int32)), (.ref (n0 + a16)), (.ref (n0 + a16))])) rfl rfl (hb hby d2_73)
        obtain ⟨x23, hx23, hf⟩ := own_bind hf
        obtain ⟨D24, hq24, hf⟩ := own_bind hf
        obtain ⟨T24, h24, L24, X24, e24, O24, N24, st24⟩ := stIW X22 hx hZ e22 O22 N22 hq24 rfl (g := (mkF m 79 #[.val (.int i0), .val (.ref (n0 + ob1))] [(.int x23), (.int (3 : Int32)), (.ref (n0 + a16)), (.ref (n0 + a16))])) rfl rfl (hb hby d2_79)
        refine Gl.on (B := T24.setTop (mkF m 80 #[.val (.int i0), .val (.ref (n0 + ob1))] [(.ref (n0 + a16))])) (fun t k => ?_) ?_
        · show Steps p.tables e below (T0.setTop (mkF m 50 #[.val (.int i0), .val (.ref (n0 + ob1))] [(.int (4 : Int32)), (.int i0)])) _
          refine XS.icmpNo X0.here hx rfl (hb hby d2_50) rfl (teq hc15).2 ?_
          show Steps p.tables e below (T0.setTop (mkF m 53 #[.val (.int i0), .val (.ref (n0 + ob1))] [])) _
          refine XS.iconst X0.here hx rfl (hb hby d2_53) ?_
          show Steps p.tables e below (T0.setTop (mkF m 54 #[.val (.int i0), .val (.ref (n0 + ob1))] [(.int (4 : Int32))])) _
          refine st16 _ ?_
          show Steps p.tables e below (T16.setTop (mkF m 56 #[.val (.int i0), .val (.ref (n0 + ob1))] [(.ref (n0 + a16))])) _
          refine XS.dup X16.here hx rfl (hb hby d2_56) rfl rfl ?_
          show Steps p.tables e below (T16.setTop (mkF m 57 #[.val (.int i0), .val (.ref (n0 + ob1))] [(.ref (n0 + a16)), (.ref (n0 + a16))])) _
          refine XS.iconst X16.here hx rfl (hb hby d2_57) ?_
          show Steps p.tables e below (T16.setTop (mkF m 58 #[.val (.int i0), .val (.ref (n0 + ob1))] [(.int (0 : Int32)), (.ref (n0 + a16)), (.ref (n0 + a16))])) _
          refine XS.aloadN X16.here hx rfl (hb hby d2_58) rfl rfl ?_
          show Steps p.tables e below (T16.setTop (mkF m 59 #[.val (.int i0), .val (.ref (n0 + ob1))] [(.ref (n0 + ob1)), (.int (0 : Int32)), (.ref (n0 + a16)), (.ref (n0 + a16))])) _
          refine XS.iconst X16.here hx rfl (hb hby d2_59) ?_
          show Steps p.tables e below (T16.setTop (mkF m 60 #[.val (.int i0), .val (.ref (n0 + ob1))] [(.int (0 : Int32)), (.ref (n0 + ob1)), (.int (0 : Int32)), (.ref (n0 + a16)), (.ref (n0 + a16))])) _
          refine ldW X16 hx hZ e16 O16 hx17 rfl (g := (mkF m 60 #[.val (.int i0), .val (.ref (n0 + ob1))] [(.int (0 : Int32)), (.ref (n0 + ob1)), (.int (0 : Int32)), (.ref (n0 + a16)), (.ref (n0 + a16))])) rfl rfl (hb hby d2_60) _ ?_
          show Steps p.tables e below (T16.setTop (mkF m 61 #[.val (.int i0), .val (.ref (n0 + ob1))] [(.int x17), (.int (0 : Int32)), (.ref (n0 + a16)), (.ref (n0 + a16))])) _
          refine st18 _ ?_
          show Steps p.tables e below (T18.setTop (mkF m 62 #[.val (.int i0), .val (.ref (n0 + ob1))] [(.ref (n0 + a16))])) _
          refine XS.dup X18.here hx rfl (hb hby d2_62) rfl rfl ?_
          show Steps p.tables e below (T18.setTop (mkF m 63 #[.val (.int i0), .val (.ref (n0 + ob1))] [(.ref (n0 + a16)), (.ref (n0 + a16))])) _
          refine XS.iconst X18.here hx rfl (hb hby d2_63) ?_
          show Steps p.tables e below (T18.setTop (mkF m 64 #[.val (.int i0), .val (.ref (n0 + ob1))] [(.int (1 : Int32)), (.ref (n0 + a16)), (.ref (n0 + a16))])) _
          refine XS.aloadN X18.here hx rfl (hb hby d2_64) rfl rfl ?_
          show Steps p.tables e below (T18.setTop (mkF m 65 #[.val (.int i0), .val (.ref (n0 + ob1))] [(.ref (n0 + ob1)), (.int (1 : Int32)), (.ref (n0 + a16)), (.ref (n0 + a16))])) _
          refine XS.iconst X18.here hx rfl (hb hby d2_65) ?_
          show Steps p.tables e below (T18.setTop (mkF m 66 #[.val (.int i0), .val (.ref (n0 + ob1))] [(.int (1 : Int32)), (.ref (n0 + ob1)), (.int (1 : Int32)), (.ref (n0 + a16)), (.ref (n0 + a16))])) _
          refine ldW X18 hx hZ e18 O18 hx19 rfl (g := (mkF m 66 #[.val (.int i0), .val (.ref (n0 + ob1))] [(.int (1 : Int32)), (.ref (n0 + ob1)), (.int (1 : Int32)), (.ref (n0 + a16)), (.ref (n0 + a16))])) rfl rfl (hb hby d2_66) _ ?_
          show Steps p.tables e below (T18.setTop (mkF m 67 #[.val (.int i0), .val (.ref (n0 + ob1))] [(.int x19), (.int (1 : Int32)), (.ref (n0 + a16)), (.ref (n0 + a16))])) _
          refine st20 _ ?_
          show Steps p.tables e below (T20.setTop (mkF m 68 #[.val (.int i0), .val (.ref (n0 + ob1))] [(.ref (n0 + a16))])) _
          refine XS.dup X20.here hx rfl (hb hby d2_68) rfl rfl ?_
          show Steps p.tables e below (T20.setTop (mkF m 69 #[.val (.int i0), .val (.ref (n0 + ob1))] [(.ref (n0 + a16)), (.ref (n0 + a16))])) _
          refine XS.iconst X20.here hx rfl (hb hby d2_69) ?_
          show Steps p.tables e below (T20.setTop (mkF m 70 #[.val (.int i0), .val (.ref (n0 + ob1))] [(.int (2 : Int32)), (.ref (n0 + a16)), (.ref (n0 + a16))])) _
          refine XS.aloadN X20.here hx rfl (hb hby d2_70) rfl rfl ?_
          show Steps p.tables e below (T20.setTop (mkF m 71 #[.val (.int i0), .val (.ref (n0 + ob1))] [(.ref (n0 + ob1)), (.int (2 : Int32)), (.ref (n0 + a16)), (.ref (n0 + a16))])) _
          refine XS.iconst X20.here hx rfl (hb hby d2_71) ?_
          show Steps p.tables e below (T20.setTop (mkF m 72 #[.val (.int i0), .val (.ref (n0 + ob1))] [(.int (2 : Int32)), (.ref (n0 + ob1)), (.int (2 : Int32)), (.ref (n0 + a16)), (.ref (n0 + a16))])) _
          refine ldW X20 hx hZ e20 O20 hx21 rfl (g := (mkF m 72 #[.val (.int i0), .val (.ref (n0 + ob1))] [(.int (2 : Int32)), (.ref (n0 + ob1)), (.int (2 : Int32)), (.ref (n0 + a16)), (.ref (n0 + a16))])) rfl rfl (hb hby d2_72) _ ?_
          show Steps p.tables e below (T20.setTop (mkF m 73 #[.val (.int i0), .val (.ref (n0 + ob1))] [(.int x21), (.int (2 : Int32)), (.ref (n0 + a16)), (.ref (n0 + a16))])) _
          refine st22 _ ?_
          show Steps p.tables e below (T22.setTop (mkF m 74 #[.val (.int i0), .val (.ref (n0 + ob1))] [(.ref (n0 + a16))])) _
          refine XS.dup X22.here hx rfl (hb hby d2_74) rfl rfl ?_
          show Steps p.tables e below (T22.setTop (mkF m 75 #[.val (.int i0), .val (.ref (n0 + ob1))] [(.ref (n0 + a16)), (.ref (n0 + a16))])) _
          refine XS.iconst X22.here hx rfl (hb hby d2_75) ?_
          show Steps p.tables e below (T22.setTop (mkF m 76 #[.val (.int i0), .val (.ref (n0 + ob1))] [(.int (3 : Int32)), (.ref (n0 + a16)), (.ref (n0 + a16))])) _
          refine XS.aloadN X22.here hx rfl (hb hby d2_76) rfl rfl ?_
          show Steps p.tables e below (T22.setTop (mkF m 77 #[.val (.int i0), .val (.ref (n0 + ob1))] [(.ref (n0 + ob1)), (.int (3 : Int32)), (.ref (n0 + a16)), (.ref (n0 + a16))])) _
          refine XS.iconst X22.here hx rfl (hb hby d2_77) ?_
          show Steps p.tables e below (T22.setTop (mkF m 78 #[.val (.int i0), .val (.ref (n0 + ob1))] [(.int (3 : Int32)), (.ref (n0 + ob1)), (.int (3 : Int32)), (.ref (n0 + a16)), (.ref (n0 + a16))])) _
          refine ldW X22 hx hZ e22 O22 hx23 rfl (g := (mkF m 78 #[.val (.int i0), .val (.ref (n0 + ob1))] [(.int (3 : Int32)), (.ref (n0 + ob1)), (.int (3 : Int32)), (.ref (n0 + a16)), (.ref (n0 + a16))])) rfl rfl (hb hby d2_78) _ ?_
          show Steps p.tables e below (T22.setTop (mkF m 79 #[.val (.int i0), .val (.ref (n0 + ob1))] [(.int x23), (.int (3 : Int32)), (.ref (n0 + a16)), (.ref (n0 + a16))])) _
          refine st24 _ ?_
          exact k
        obtain ⟨rfl, rfl⟩ := own_inj hf
        exact Gl.outR X24 hx hlk hret rfl (hb hby d2_80) ⟨rfl, N24, by rw [e24]; exact O24⟩ (by show _ ≤ 1; omega) (by show _ ≤ 5; omega)
      · rw [if_neg hc15] at hf
        obtain ⟨a25, ha25, hf⟩ := own_letE hf
        obtain ⟨D25, hD25, hf⟩ := own_bind hf
        obtain ⟨T25, h25, X25, e25, O25, st25⟩ := newAW X0 hx hZ (aty := .int) (hw _ (List.mem_of_getElem? (i := 0) rfl)) e0 O0 rfl rfl hD25 (g := (mkF m 82 #[.val (.int i0), .val (.ref (n0 + ob1))] [(.int (5 : Int32))])) rfl (hb hby d2_82) rfl (by decide) (by show _ + 1 ≤ 1; omega) (by show _ + 5 ≤ 5; omega)
        rw [ha25] at st25
        obtain ⟨x26, hx26, hf⟩ := own_bind hf
        obtain ⟨D27, hq27, hf⟩ := own_bind hf
        obtain ⟨T27, h27, L27, X27, e27, O27, N27, st27⟩ := stIW X25 hx hZ e25 O25 N0 hq27 rfl (g := (mkF m 89 #[.val (.int i0), .val (.ref (n0 + ob1))] [(.int x26), (.int (0 : Int32)), (.ref (n0 + a25)), (.ref (n0 + a25))])) rfl rfl (hb hby d2_89)
        obtain ⟨x28, hx28, hf⟩ := own_bind hf
        obtain ⟨D29, hq29, hf⟩ := own_bind hf
        obtain ⟨T29, h29, L29, X29, e29, O29, N29, st29⟩ := stIW X27 hx hZ e27 O27 N27 hq29 rfl (g := (mkF m 95 #[.val (.int i0), .val (.ref (n0 + ob1))] [(.int x28), (.int (1 : Int32)), (.ref (n0 + a25)), (.ref (n0 + a25))])) rfl rfl (hb hby d2_95)
        obtain ⟨x30, hx30, hf⟩ := own_bind hf
        obtain ⟨D31, hq31, hf⟩ := own_bind hf
        obtain ⟨T31, h31, L31, X31, e31, O31, N31, st31⟩ := stIW X29 hx hZ e29 O29 N29 hq31 rfl (g := (mkF m 101 #[.val (.int i0), .val (.ref (n0 + ob1))] [(.int x30), (.int (2 : Int32)), (.ref (n0 + a25)), (.ref (n0 + a25))])) rfl rfl (hb hby d2_101)
        obtain ⟨x32, hx32, hf⟩ := own_bind hf
        obtain ⟨D33, hq33, hf⟩ := own_bind hf
        obtain ⟨T33, h33, L33, X33, e33, O33, N33, st33⟩ := stIW X31 hx hZ e31 O31 N31 hq33 rfl (g := (mkF m 107 #[.val (.int i0), .val (.ref (n0 + ob1))] [(.int x32), (.int (3 : Int32)), (.ref (n0 + a25)), (.ref (n0 + a25))])) rfl rfl (hb hby d2_107)
        obtain ⟨x34, hx34, hf⟩ := own_bind hf
        obtain ⟨D35, hq35, hf⟩ := own_bind hf
        obtain ⟨T35, h35, L35, X35, e35, O35, N35, st35⟩ := stIW X33 hx hZ e33 O33 N33 hq35 rfl (g := (mkF m 113 #[.val (.int i0), .val (.ref (n0 + ob1))] [(.int x34), (.int (4 : Int32)), (.ref (n0 + a25)), (.ref (n0 + a25))])) rfl rfl (hb hby d2_113)
        refine Gl.on (B := T35.setTop (mkF m 114 #[.val (.int i0), .val (.ref (n0 + ob1))] [(.ref (n0 + a25))])) (fun t k => ?_) ?_
        · show Steps p.tables e below (T0.setTop (mkF m 50 #[.val (.int i0), .val (.ref (n0 + ob1))] [(.int (4 : Int32)), (.int i0)])) _
          refine XS.icmpYes X0.here hx rfl (pc0 := 50) (pc' := 81) rfl (hb hby d2_50) rfl (feq hc15).2 (by decide) (by decide) ?_
          show Steps p.tables e below (T0.setTop (mkF m 81 #[.val (.int i0), .val (.ref (n0 + ob1))] [])) _
          refine XS.iconst X0.here hx rfl (hb hby d2_81) ?_
          show Steps p.tables e below (T0.setTop (mkF m 82 #[.val (.int i0), .val (.ref (n0 + ob1))] [(.int (5 : Int32))])) _
          refine st25 _ ?_
          show Steps p.tables e below (T25.setTop (mkF m 84 #[.val (.int i0), .val (.ref (n0 + ob1))] [(.ref (n0 + a25))])) _
          refine XS.dup X25.here hx rfl (hb hby d2_84) rfl rfl ?_
          show Steps p.tables e below (T25.setTop (mkF m 85 #[.val (.int i0), .val (.ref (n0 + ob1))] [(.ref (n0 + a25)), (.ref (n0 + a25))])) _
          refine XS.iconst X25.here hx rfl (hb hby d2_85) ?_
          show Steps p.tables e below (T25.setTop (mkF m 86 #[.val (.int i0), .val (.ref (n0 + ob1))] [(.int (0 : Int32)), (.ref (n0 + a25)), (.ref (n0 + a25))])) _
          refine XS.aloadN X25.here hx rfl (hb hby d2_86) rfl rfl ?_
          show Steps p.tables e below (T25.setTop (mkF m 87 #[.val (.int i0), .val (.ref (n0 + ob1))] [(.ref (n0 + ob1)), (.int (0 : Int32)), (.ref (n0 + a25)), (.ref (n0 + a25))])) _
          refine XS.iconst X25.here hx rfl (hb hby d2_87) ?_
          show Steps p.tables e below (T25.setTop (mkF m 88 #[.val (.int i0), .val (.ref (n0 + ob1))] [(.int (0 : Int32)), (.ref (n0 + ob1)), (.int (0 : Int32)), (.ref (n0 + a25)), (.ref (n0 + a25))])) _
          refine ldW X25 hx hZ e25 O25 hx26 rfl (g := (mkF m 88 #[.val (.int i0), .val (.ref (n0 + ob1))] [(.int (0 : Int32)), (.ref (n0 + ob1)), (.int (0 : Int32)), (.ref (n0 + a25)), (.ref (n0 + a25))])) rfl rfl (hb hby d2_88) _ ?_
          show Steps p.tables e below (T25.setTop (mkF m 89 #[.val (.int i0), .val (.ref (n0 + ob1))] [(.int x26), (.int (0 : Int32)), (.ref (n0 + a25)), (.ref (n0 + a25))])) _
          refine st27 _ ?_
          show Steps p.tables e below (T27.setTop (mkF m 90 #[.val (.int i0), .val (.ref (n0 + ob1))] [(.ref (n0 + a25))])) _
          refine XS.dup X27.here hx rfl (hb hby d2_90) rfl rfl ?_
          show Steps p.tables e below (T27.setTop (mkF m 91 #[.val (.int i0), .val (.ref (n0 + ob1))] [(.ref (n0 + a25)), (.ref (n0 + a25))])) _
          refine XS.iconst X27.here hx rfl (hb hby d2_91) ?_
          show Steps p.tables e below (T27.setTop (mkF m 92 #[.val (.int i0), .val (.ref (n0 + ob1))] [(.int (1 : Int32)), (.ref (n0 + a25)), (.ref (n0 + a25))])) _
          refine XS.aloadN X27.here hx rfl (hb hby d2_92) rfl rfl ?_
          show Steps p.tables e below (T27.setTop (mkF m 93 #[.val (.int i0), .val (.ref (n0 + ob1))] [(.ref (n0 + ob1)), (.int (1 : Int32)), (.ref (n0 + a25)), (.ref (n0 + a25))])) _
          refine XS.iconst X27.here hx rfl (hb hby d2_93) ?_
          show Steps p.tables e below (T27.setTop (mkF m 94 #[.val (.int i0), .val (.ref (n0 + ob1))] [(.int (1 : Int32)), (.ref (n0 + ob1)), (.int (1 : Int32)), (.ref (n0 + a25)), (.ref (n0 + a25))])) _
          refine ldW X27 hx hZ e27 O27 hx28 rfl (g := (mkF m 94 #[.val (.int i0), .val (.ref (n0 + ob1))] [(.int (1 : Int32)), (.ref (n0 + ob1)), (.int (1 : Int32)), (.ref (n0 + a25)), (.ref (n0 + a25))])) rfl rfl (hb hby d2_94) _ ?_
          show Steps p.tables e below (T27.setTop (mkF m 95 #[.val (.int i0), .val (.ref (n0 + ob1))] [(.int x28), (.int (1 : Int32)), (.ref (n0 + a25)), (.ref (n0 + a25))])) _
          refine st29 _ ?_
          show Steps p.tables e below (T29.setTop (mkF m 96 #[.val (.int i0), .val (.ref (n0 + ob1))] [(.ref (n0 + a25))])) _
          refine XS.dup X29.here hx rfl (hb hby d2_96) rfl rfl ?_
          show Steps p.tables e below (T29.setTop (mkF m 97 #[.val (.int i0), .val (.ref (n0 + ob1))] [(.ref (n0 + a25)), (.ref (n0 + a25))])) _
          refine XS.iconst X29.here hx rfl (hb hby d2_97) ?_
          show Steps p.tables e below (T29.setTop (mkF m 98 #[.val (.int i0), .val (.ref (n0 + ob1))] [(.int (2 : Int32)), (.ref (n0 + a25)), (.ref (n0 + a25))])) _
          refine XS.aloadN X29.here hx rfl (hb hby d2_98) rfl rfl ?_
          show Steps p.tables e below (T29.setTop (mkF m 99 #[.val (.int i0), .val (.ref (n0 + ob1))] [(.ref (n0 + ob1)), (.int (2 : Int32)), (.ref (n0 + a25)), (.ref (n0 + a25))])) _
          refine XS.iconst X29.here hx rfl (hb hby d2_99) ?_
          show Steps p.tables e below (T29.setTop (mkF m 100 #[.val (.int i0), .val (.ref (n0 + ob1))] [(.int (2 : Int32)), (.ref (n0 + ob1)), (.int (2 : Int32)), (.ref (n0 + a25)), (.ref (n0 + a25))])) _
          refine ldW X29 hx hZ e29 O29 hx30 rfl (g := (mkF m 100 #[.val (.int i0), .val (.ref (n0 + ob1))] [(.int (2 : Int32)), (.ref (n0 + ob1)), (.int (2 : Int32)), (.ref (n0 + a25)), (.ref (n0 + a25))])) rfl rfl (hb hby d2_100) _ ?_
          show Steps p.tables e below (T29.setTop (mkF m 101 #[.val (.int i0), .val (.ref (n0 + ob1))] [(.int x30), (.int (2 : Int32)), (.ref (n0 + a25)), (.ref (n0 + a25))])) _
          refine st31 _ ?_
          show Steps p.tables e below (T31.setTop (mkF m 102 #[.val (.int i0), .val (.ref (n0 + ob1))] [(.ref (n0 + a25))])) _
          refine XS.dup X31.here hx rfl (hb hby d2_102) rfl rfl ?_
          show Steps p.tables e below (T31.setTop (mkF m 103 #[.val (.int i0), .val (.ref (n0 + ob1))] [(.ref (n0 + a25)), (.ref (n0 + a25))])) _
          refine XS.iconst X31.here hx rfl (hb hby d2_103) ?_
          show Steps p.tables e below (T31.setTop (mkF m 104 #[.val (.int i0), .val (.ref (n0 + ob1))] [(.int (3 : Int32)), (.ref (n0 + a25)), (.ref (n0 + a25))])) _
          refine XS.aloadN X31.here hx rfl (hb hby d2_104) rfl rfl ?_
          show Steps p.tables e below (T31.setTop (mkF m 105 #[.val (.int i0), .val (.ref (n0 + ob1))] [(.ref (n0 + ob1)), (.int (3 : Int32)), (.ref (n0 + a25)), (.ref (n0 + a25))])) _
          refine XS.iconst X31.here hx rfl (hb hby d2_105) ?_
          show Steps p.tables e below (T31.setTop (mkF m 106 #[.val (.int i0), .val (.ref (n0 + ob1))] [(.int (3 : Int32)), (.ref (n0 + ob1)), (.int (3 : Int32)), (.ref (n0 + a25)), (.ref (n0 + a25))])) _
          refine ldW X31 hx hZ e31 O31 hx32 rfl (g := (mkF m 106 #[.val (.int i0), .val (.ref (n0 + ob1))] [(.int (3 : Int32)), (.ref (n0 + ob1)), (.int (3 : Int32)), (.ref (n0 + a25)), (.ref (n0 + a25))])) rfl rfl (hb hby d2_106) _ ?_
          show Steps p.tables e below (T31.setTop (mkF m 107 #[.val (.int i0), .val (.ref (n0 + ob1))] [(.int x32), (.int (3 : Int32)), (.ref (n0 + a25)), (.ref (n0 + a25))])) _
          refine st33 _ ?_
          show Steps p.tables e below (T33.setTop (mkF m 108 #[.val (.int i0), .val (.ref (n0 + ob1))] [(.ref (n0 + a25))])) _
          refine XS.dup X33.here hx rfl (hb hby d2_108) rfl rfl ?_
          show Steps p.tables e below (T33.setTop (mkF m 109 #[.val (.int i0), .val (.ref (n0 + ob1))] [(.ref (n0 + a25)), (.ref (n0 + a25))])) _
          refine XS.iconst X33.here hx rfl (hb hby d2_109) ?_
          show Steps p.tables e below (T33.setTop (mkF m 110 #[.val (.int i0), .val (.ref (n0 + ob1))] [(.int (4 : Int32)), (.ref (n0 + a25)), (.ref (n0 + a25))])) _
          refine XS.aloadN X33.here hx rfl (hb hby d2_110) rfl rfl ?_
          show Steps p.tables e below (T33.setTop (mkF m 111 #[.val (.int i0), .val (.ref (n0 + ob1))] [(.ref (n0 + ob1)), (.int (4 : Int32)), (.ref (n0 + a25)), (.ref (n0 + a25))])) _
          refine XS.iconst X33.here hx rfl (hb hby d2_111) ?_
          show Steps p.tables e below (T33.setTop (mkF m 112 #[.val (.int i0), .val (.ref (n0 + ob1))] [(.int (4 : Int32)), (.ref (n0 + ob1)), (.int (4 : Int32)), (.ref (n0 + a25)), (.ref (n0 + a25))])) _
          refine ldW X33 hx hZ e33 O33 hx34 rfl (g := (mkF m 112 #[.val (.int i0), .val (.ref (n0 + ob1))] [(.int (4 : Int32)), (.ref (n0 + ob1)), (.int (4 : Int32)), (.ref (n0 + a25)), (.ref (n0 + a25))])) rfl rfl (hb hby d2_112) _ ?_
          show Steps p.tables e below (T33.setTop (mkF m 113 #[.val (.int i0), .val (.ref (n0 + ob1))] [(.int x34), (.int (4 : Int32)), (.ref (n0 + a25)), (.ref (n0 + a25))])) _
          refine st35 _ ?_
          exact k
        obtain ⟨rfl, rfl⟩ := own_inj hf
        exact Gl.outR X35 hx hlk hret rfl (hb hby d2_114) ⟨rfl, N35, by rw [e35]; exact O35⟩ (by show _ ≤ 1; omega) (by show _ ≤ 5; omega)
theorem d8_0 : decode jdk_29_method_61_code 0 = .ok (.lload_n 0, 1) := by decide +kernel
theorem d8_1 : decode jdk_29_method_61_code 1 = .ok (.lconst 0, 1) := by decide +kernel
theorem d8_2 : decode jdk_29_method_61_code 2 = .ok (.lcmp, 1) := by decide +kernel
theorem d8_3 : decode jdk_29_method_61_code 3 = .ok (.ifCond .ge 8, 3) := by decide +kernel
theorem d8_6 : decode jdk_29_method_61_code 6 = .ok (.lload_n 0, 1) := by decide +kernel
theorem d8_7 : decode jdk_29_method_61_code 7 = .ok (.lneg, 1) := by decide +kernel
theorem d8_8 : decode jdk_29_method_61_code 8 = .ok (.goto 4, 3) := by decide +kernel
theorem d8_11 : decode jdk_29_method_61_code 11 = .ok (.lload_n 0, 1) := by decide +kernel
theorem d8_12 : decode jdk_29_method_61_code 12 = .ok (.lreturn, 1) := by decide +kernel
def f8 (D : Hp) (j0 : Int64) : Option (Int64 × Hp) :=
  if j0 < (0 : Int64) then (some ((-j0), D)) else (some (j0, D))
theorem ef_8 (m : MethodId) (j0 : Int64) : entryFrame m #[(.long j0)] 2 = mkF m 0 #[.val (.long j0), .second] [] := by first | (simp [entryFrame, mkF, argsToLocals, Value.category]; done) | rfl
set_option maxRecDepth 65536 in
set_option maxHeartbeats 40000000 in
theorem ct8 {l : Launch} {Z : State} {a0 : Array Value} (hw : ∀ d ∈ tables_1, d.before a0 Z = true) {n0 : Nat} {D D' : Hp} {j0 : Int64} {r : Int64} (hf : f8 D j0 = some (r, D')) :
    Ct Kt1 l Z (⟨"java/lang/Math", "abs", "(J)J"⟩ : MethodName) (.code (⟨"java/lang/Math", "abs", "(J)J"⟩ : MethodName) jdk_29_method_61_code 2 (some .long)) ({ frames := 0, cells := 0, slots := 0, locals := 0 } : Room) n0 D #[(.long j0)] (some (.long r)) D' := by
  refine Ct.of (Jvm.Free.JP.mathPlain rfl (by decide +kernel)) ?_
  intro p e s m below meth c T0 h0 hC X0 e0 O0
  obtain ⟨hx, hZ, hby, hml, hown, hnm, hret, hlk⟩ := id hC
  have hml : c.maxLocals = 2 := hml
  have hown : s.vm.findClass "java/lang/Math" = some m.cls := hown
  have hnm : meth.name = "abs" := hnm
  have N0 := Fr.nil n0
  refine Gl.on (fun t k => castTop (ef_8 m j0) k) ?_
  rw [f8] at hf
  refine Gl.on (B := T0.setTop (mkF m 3 #[.val (.long j0), .second] [(.int (lcmpW j0 (0 : Int64)))])) (fun t k => ?_) ?_
  · show Steps p.tables e below (T0.setTop (mkF m 0 #[.val (.long j0), .second] [])) _
    refine XS.lloadN X0.here hx rfl (hb hby d8_0) rfl ?_
    show Steps p.tables e below (T0.setTop (mkF m 1 #[.val (.long j0), .second] [(.long j0)])) _
    refine XS.lconst X0.here hx rfl (hb hby d8_1) ?_
    show Steps p.tables e below (T0.setTop (mkF m 2 #[.val (.long j0), .second] [(.long (0 : Int64)), (.long j0)])) _
    refine XS.lcmp X0.here hx rfl (hb hby d8_2) rfl ?_
    exact k
  by_cases hc1 : j0 < (0 : Int64)
  · rw [if_pos hc1] at hf
    refine Gl.on (B := T0.setTop (mkF m 12 #[.val (.long j0), .second] [(.long (-j0))])) (fun t k => ?_) ?_
    · show Steps p.tables e below (T0.setTop (mkF m 3 #[.val (.long j0), .second] [(.int (lcmpW j0 (0 : Int64)))])) _
      refine XS.ifNo X0.here hx rfl (hb hby d8_3) rfl ((if0 _ _).trans (tlt ((lw_lt _ _).mpr hc1)).2.1) ?_
      show Steps p.tables e below (T0.setTop (mkF m 6 #[.val (.long j0), .second] [])) _
      refine XS.lloadN X0.here hx rfl (hb hby d8_6) rfl ?_
      show Steps p.tables e below (T0.setTop (mkF m 7 #[.val (.long j0), .second] [(.long j0)])) _
      refine XS.lneg X0.here hx rfl (hb hby d8_7) rfl ?_
      show Steps p.tables e below (T0.setTop (mkF m 8 #[.val (.long j0), .second] [(.long (-j0))])) _
      refine XS.goto X0.here hx rfl (pc0 := 8) (pc' := 12) rfl (hb hby d8_8) (by decide) (by decide) ?_
      exact k
    obtain ⟨rfl, rfl⟩ := own_inj hf
    exact Gl.outJ X0 hx hlk hret (hb hby d8_12) ⟨rfl, N0, by rw [e0]; exact O0⟩ (by show _ ≤ 0; omega) (by show _ ≤ 0; omega)
  · rw [if_neg hc1] at hf
    refine Gl.on (B := T0.setTop (mkF m 12 #[.val (.long j0), .second] [(.long j0)])) (fun t k => ?_) ?_
    · show Steps p.tables e below (T0.setTop (mkF m 3 #[.val (.long j0), .second] [(.int (lcmpW j0 (0 : Int64)))])) _
      refine XS.ifYes X0.here hx rfl (pc0 := 3) (pc' := 11) rfl (hb hby d8_3) rfl ((if0 _ _).trans (flt (mt (lw_lt _ _).mp hc1)).2.1) (by decide) (by decide) ?_
      show Steps p.tables e below (T0.setTop (mkF m 11 #[.val (.long j0), .second] [])) _
      refine XS.lloadN X0.here hx rfl (hb hby d8_11) rfl ?_
      exact k
    obtain ⟨rfl, rfl⟩ := own_inj hf
    exact Gl.outJ X0 hx hlk hret (hb hby d8_12) ⟨rfl, N0, by rw [e0]; exact O0⟩ (by show _ ≤ 0; omega) (by show _ ≤ 0; omega)
theorem pd_0 : parseMethodDescriptor "(J)J" = some ⟨[.long], some .long⟩ := by decide +kernel
theorem d7_0 : decode jdk_29_method_30_code 0 = .ok (.lload_n 0, 1) := by decide +kernel
theorem d7_1 : decode jdk_29_method_30_code 1 = .ok (.lload_n 2, 1) := by decide +kernel
theorem d7_2 : decode jdk_29_method_30_code 2 = .ok (.lmul, 1) := by decide +kernel
theorem d7_3 : decode jdk_29_method_30_code 3 = .ok (.lstore 4, 2) := by decide +kernel
theorem d7_5 : decode jdk_29_method_30_code 5 = .ok (.lload_n 0, 1) := by decide +kernel
theorem d7_6 : decode jdk_29_method_30_code 6 = .ok (.invokestatic 122, 3) := by decide +kernel
theorem d7_9 : decode jdk_29_method_30_code 9 = .ok (.lstore 6, 2) := by decide +kernel
theorem d7_11 : decode jdk_29_method_30_code 11 = .ok (.lload_n 2, 1) := by decide +kernel
theorem d7_12 : decode jdk_29_method_30_code 12 = .ok (.invokestatic 122, 3) := by decide +kernel
theorem d7_15 : decode jdk_29_method_30_code 15 = .ok (.lstore 8, 2) := by decide +kernel
theorem d7_17 : decode jdk_29_method_30_code 17 = .ok (.lload 6, 2) := by decide +kernel
theorem d7_19 : decode jdk_29_method_30_code 19 = .ok (.lload 8, 2) := by decide +kernel
theorem d7_21 : decode jdk_29_method_30_code 21 = .ok (.lor, 1) := by decide +kernel
theorem d7_22 : decode jdk_29_method_30_code 22 = .ok (.bipush 31, 2) := by decide +kernel
theorem d7_24 : decode jdk_29_method_30_code 24 = .ok (.lushr, 1) := by decide +kernel
theorem d7_25 : decode jdk_29_method_30_code 25 = .ok (.lconst 0, 1) := by decide +kernel
theorem d7_26 : decode jdk_29_method_30_code 26 = .ok (.lcmp, 1) := by decide +kernel
theorem d7_27 : decode jdk_29_method_30_code 27 = .ok (.ifCond .eq 44, 3) := by decide +kernel
theorem d7_30 : decode jdk_29_method_30_code 30 = .ok (.lload_n 2, 1) := by decide +kernel
theorem d7_31 : decode jdk_29_method_30_code 31 = .ok (.lconst 0, 1) := by decide +kernel
theorem d7_32 : decode jdk_29_method_30_code 32 = .ok (.lcmp, 1) := by decide +kernel
theorem d7_33 : decode jdk_29_method_30_code 33 = .ok (.ifCond .eq 12, 3) := by decide +kernel
theorem d7_36 : decode jdk_29_method_30_code 36 = .ok (.lload 4, 2) := by decide +kernel
theorem d7_38 : decode jdk_29_method_30_code 38 = .ok (.lload_n 2, 1) := by decide +kernel
theorem d7_39 : decode jdk_29_method_30_code 39 = .ok (.ldiv, 1) := by decide +kernel
theorem d7_40 : decode jdk_29_method_30_code 40 = .ok (.lload_n 0, 1) := by decide +kernel
theorem d7_41 : decode jdk_29_method_30_code 41 = .ok (.lcmp, 1) := by decide +kernel
theorem d7_42 : decode jdk_29_method_30_code 42 = .ok (.ifCond .ne 19, 3) := by decide +kernel
theorem d7_45 : decode jdk_29_method_30_code 45 = .ok (.lload_n 0, 1) := by decide +kernel
theorem d7_71 : decode jdk_29_method_30_code 71 = .ok (.lload 4, 2) := by decide +kernel
theorem d7_73 : decode jdk_29_method_30_code 73 = .ok (.lreturn, 1) := by decide +kernel
def f7 (D : Hp) (j0 : Int64) (j2 : Int64) : Option (Int64 × Hp) :=
  own_let (j0 * j2) fun v1 =>
  (f8 D j0).bind fun q2 => own_let q2.1 fun x3 => own_let q2.2 fun D2 =>
  (f8 D2 j2).bind fun q4 => own_let q4.1 fun x5 => own_let q4.2 fun D4 =>
  if (((x3 ||| x5).toUInt64 >>> ((31 : Int32) &&& 0x3f).toInt64.toUInt64).toInt64) = (0 : Int64) then (some (v1, D4)) else (if j2 = (0 : Int64) then (none) else (if j2 = (0 : Int64) then none else
  if (v1 / j2) = j0 then (none) else (none)))
theorem ef_7 (m : MethodId) (j0 : Int64) (j2 : Int64) : entryFrame m #[(.long j0), (.long j2)] 10 = mkF m 0 #[.val (.long j0), .second, .val (.long j2), .second, .unset, .unset, .unset, .unset, .unset, .unset] [] := by first | (simp [entryFrame, mkF, argsToLocals, Value.category]; done) | rfl
set_option maxRecDepth 65536 in
set_option maxHeartbeats 40000000 in
theorem ct7 {l : Launch} {Z : State} {a0 : Array Value} (hw : ∀ d ∈ tables_1, d.before a0 Z = true) {n0 : Nat} {D D' : Hp} {j0 : Int64} {j2 : Int64} {r : Int64} (hf : f7 D j0 j2 = some (r, D')) :
    Ct Kt1 l Z (⟨"java/lang/Math", "multiplyExact", "(JJ)J"⟩ : MethodName) (.code (⟨"java/lang/Math", "multiplyExact", "(JJ)J"⟩ : MethodName) jdk_29_method_30_code 10 (some .long)) ({ frames := 1, cells := 0, slots := 0, locals := 13 } : Room) n0 D #[(.long j0), (.long j2)] (some (.long r)) D' := by
  refine Ct.of (Jvm.Free.JP.mathPlain rfl (by decide +kernel)) ?_
  intro p e s m below meth c T0 h0 hC X0 e0 O0
  obtain ⟨hx, hZ, hby, hml, hown, hnm, hret, hlk⟩ := id hC
  have hml : c.maxLocals = 10 := hml
  have hown : s.vm.findClass "java/lang/Math" = some m.cls := hown
  have hnm : meth.name = "multiplyExact" := hnm
  have N0 := Fr.nil n0
  refine Gl.on (fun t k => castTop (ef_7 m j0 j2) k) ?_
  rw [f7] at hf
  obtain ⟨v1, hv1, hf⟩ := own_letE hf
  obtain ⟨⟨x3, D2⟩, hq2, hf⟩ := own_bind hf
  obtain ⟨_, rfl, hf⟩ := own_letE hf
  obtain ⟨_, rfl, hf⟩ := own_letE hf
  obtain ⟨T2, h2, L2, X2, e2, O2, N2, st2⟩ := callSW X0 hx hZ (y := (⟨"java/lang/Math", "abs", "(J)J"⟩ : MethodName)) hown (hw _ (List.mem_of_getElem? (i := 28) rfl)) (hw _ (List.mem_of_getElem? (i := 29) rfl)) (hw _ (List.mem_of_getElem? (i := 23) rfl)) (hw _ (List.mem_of_getElem? (i := 30) rfl)) (by decide) e0 O0 N0 (as' := [(.long j0)]) (ct8 hw hq2) (W := 0) (kc := 0) (ks := 0) rfl rfl (by decide) (by decide) (g := (mkF m 6 #[.val (.long j0), .second, .val (.long j2), .second, .val (.long v1), .second, .unset, .unset, .unset, .unset] [(.long j0)])) rfl (by rw [hml]; rfl) (rest := []) (lenOf pd_0 rfl) rfl (by show 2 * 0 + _ ≤ _; exact Nat.le_of_eq rfl) (hb hby d7_6) (by show _ + 0 ≤ 0; omega) (by show _ + 0 ≤ 0; omega)
  obtain ⟨⟨x5, D4⟩, hq4, hf⟩ := own_bind hf
  obtain ⟨_, rfl, hf⟩ := own_letE hf
  obtain ⟨_, rfl, hf⟩ := own_letE hf
  obtain ⟨T4, h4, L4, X4, e4, O4, N4, st4⟩ := callSW X2 hx hZ (y := (⟨"java/lang/Math", "abs", "(J)J"⟩ : MethodName)) hown (hw _ (List.mem_of_getElem? (i := 28) rfl)) (hw _ (List.mem_of_getElem? (i := 29) rfl)) (hw _ (List.mem_of_getElem? (i := 23) rfl)) (hw _ (List.mem_of_getElem? (i := 30) rfl)) (by decide) e2 O2 N2 (as' := [(.long j2)]) (ct8 hw hq4) (W := 0) (kc := 0) (ks := 0) rfl rfl (by decide) (by decide) (g := (mkF m 12 #[.val (.long j0), .second, .val (.long j2), .second, .val (.long v1), .second, .val (.long x3), .second, .unset, .unset] [(.long j2)])) rfl (by rw [hml]; rfl) (rest := []) (lenOf pd_0 rfl) rfl (by show 2 * 0 + _ ≤ _; exact Nat.le_of_eq rfl) (hb hby d7_12) (by show _ + 0 ≤ 0; omega) (by show _ + 0 ≤ 0; omega)
  refine Gl.on (B := T4.setTop (mkF m 27 #[.val (.long j0), .second, .val (.long j2), .second, .val (.long v1), .second, .val (.long x3), .second, .val (.long x5), .second] [(.int (lcmpW (((x3 ||| x5).toUInt64 >>> ((31 : Int32) &&& 0x3f).toInt64.toUInt64).toInt64) (0 : Int64)))])) (fun t k => ?_) ?_
  · show Steps p.tables e below (T0.setTop (mkF m 0 #[.val (.long j0), .second, .val (.long j2), .second, .unset, .unset, .unset, .unset, .unset, .unset] [])) _
    refine XS.lloadN X0.here hx rfl (hb hby d7_0) rfl ?_
    show Steps p.tables e below (T0.setTop (mkF m 1 #[.val (.long j0), .second, .val (.long j2), .second, .unset, .unset, .unset, .unset, .unset, .unset] [(.long j0)])) _
    refine XS.lloadN X0.here hx rfl (hb hby d7_1) rfl ?_
    show Steps p.tables e below (T0.setTop (mkF m 2 #[.val (.long j0), .second, .val (.long j2), .second, .unset, .unset, .unset, .unset, .unset, .unset] [(.long j2), (.long j0)])) _
    refine XS.lmul X0.here hx rfl (hb hby d7_2) rfl ?_
    show Steps p.tables e below (T0.setTop (mkF m 3 #[.val (.long j0), .second, .val (.long j2), .second, .unset, .unset, .unset, .unset, .unset, .unset] [(.long (j0 * j2))])) _
    refine own_to (congrArg (fun z => T0.setTop (mkF m 3 #[.val (.long j0), .second, .val (.long j2), .second, .unset, .unset, .unset, .unset, .unset, .unset] [(.long z)])) hv1) ?_
    show Steps p.tables e below (T0.setTop (mkF m 3 #[.val (.long j0), .second, .val (.long j2), .second, .unset, .unset, .unset, .unset, .unset, .unset] [(.long v1)])) _
    refine XS.lstore X0.here hx rfl (hb hby d7_3) rfl (l' := #[.val (.long j0), .second, .val (.long j2), .second, .val (.long v1), .second, .unset, .unset, .unset, .unset]) rfl ?_
    show Steps p.tables e below (T0.setTop (mkF m 5 #[.val (.long j0), .second, .val (.long j2), .second, .val (.long v1), .second, .unset, .unset, .unset, .unset] [])) _
    refine XS.lloadN X0.here hx rfl (hb hby d7_5) rfl ?_
    show Steps p.tables e below (T0.setTop (mkF m 6 #[.val (.long j0), .second, .val (.long j2), .second, .val (.long v1), .second, .unset, .unset, .unset, .unset] [(.long j0)])) _
    refine st2 _ ?_
    show Steps p.tables e below (T2.setTop (mkF m 9 #[.val (.long j0), .second, .val (.long j2), .second, .val (.long v1), .second, .unset, .unset, .unset, .unset] [(.long x3)])) _
    refine XS.lstore X2.here hx rfl (hb hby d7_9) rfl (l' := #[.val (.long j0), .second, .val (.long j2), .second, .val (.long v1), .second, .val (.long x3), .second, .unset, .unset]) rfl ?_
    show Steps p.tables e below (T2.setTop (mkF m 11 #[.val (.long j0), .second, .val (.long j2), .second, .val (.long v1), .second, .val (.long x3), .second, .unset, .unset] [])) _
    refine XS.lloadN X2.here hx rfl (hb hby d7_11) rfl ?_
    show Steps p.tables e below (T2.setTop (mkF m 12 #[.val (.long j0), .second, .val (.long j2), .second, .val (.long v1), .second, .val (.long x3), .second, .unset, .unset] [(.long j2)])) _
    refine st4 _ ?_
    show Steps p.tables e below (T4.setTop (mkF m 15 #[.val (.long j0), .second, .val (.long j2), .second, .val (.long v1), .second, .val (.long x3), .second, .unset, .unset] [(.long x5)])) _
    refine XS.lstore X4.here hx rfl (hb hby d7_15) rfl (l' := #[.val (.long j0), .second, .val (.long j2), .second, .val (.long v1), .second, .val (.long x3), .second, .val (.long x5), .second]) rfl ?_
    show Steps p.tables e below (T4.setTop (mkF m 17 #[.val (.long j0), .second, .val (.long j2), .second, .val (.long v1), .second, .val (.long x3), .second, .val (.long x5), .second] [])) _
    refine XS.lload X4.here hx rfl (hb hby d7_17) rfl ?_
    show Steps p.tables e below (T4.setTop (mkF m 19 #[.val (.long j0), .second, .val (.long j2), .second, .val (.long v1), .second, .val (.long x3), .second, .val (.long x5), .second] [(.long x3)])) _
    refine XS.lload X4.here hx rfl (hb hby d7_19) rfl ?_
    show Steps p.tables e below (T4.setTop (mkF m 21 #[.val (.long j0), .second, .val (.long j2), .second, .val (.long v1), .second, .val (.long x3), .second, .val (.long x5), .second] [(.long x5), (.long x3)])) _
    refine XS.lor X4.here hx rfl (hb hby d7_21) rfl ?_
    show Steps p.tables e below (T4.setTop (mkF m 22 #[.val (.long j0), .second, .val (.long j2), .second, .val (.long v1), .second, .val (.long x3), .second, .val (.long x5), .second] [(.long (x3 ||| x5))])) _
    refine XS.bipush X4.here hx rfl (hb hby d7_22) ?_
    show Steps p.tables e below (T4.setTop (mkF m 24 #[.val (.long j0), .second, .val (.long j2), .second, .val (.long v1), .second, .val (.long x3), .second, .val (.long x5), .second] [(.int (31 : Int32)), (.long (x3 ||| x5))])) _
    refine XS.lushr X4.here hx rfl (hb hby d7_24) rfl ?_
    show Steps p.tables e below (T4.setTop (mkF m 25 #[.val (.long j0), .second, .val (.long j2), .second, .val (.long v1), .second, .val (.long x3), .second, .val (.long x5), .second] [(.long (((x3 ||| x5).toUInt64 >>> ((31 : Int32) &&& 0x3f).toInt64.toUInt64).toInt64))])) _
    refine XS.lconst X4.here hx rfl (hb hby d7_25) ?_
    show Steps p.tables e below (T4.setTop (mkF m 26 #[.val (.long j0), .second, .val (.long j2), .second, .val (.long v1), .second, .val (.long x3), .second, .val (.long x5), .second] [(.long (0 : Int64)), (.long (((x3 ||| x5).toUInt64 >>> ((31 : Int32) &&& 0x3f).toInt64.toUInt64).toInt64))])) _
    refine XS.lcmp X4.here hx rfl (hb hby d7_26) rfl ?_
    exact k
  by_cases hc6 : (((x3 ||| x5).toUInt64 >>> ((31 : Int32) &&& 0x3f).toInt64.toUInt64).toInt64) = (0 : Int64)
  · rw [if_pos hc6] at hf
    refine Gl.on (B := T4.setTop (mkF m 73 #[.val (.long j0), .second, .val (.long j2), .second, .val (.long v1), .second, .val (.long x3), .second, .val (.long x5), .second] [(.long v1)])) (fun t k => ?_) ?_
    · show Steps p.tables e below (T4.setTop (mkF m 27 #[.val (.long j0), .second, .val (.long j2), .second, .val (.long v1), .second, .val (.long x3), .second, .val (.long x5), .second] [(.int (lcmpW (((x3 ||| x5).toUInt64 >>> ((31 : Int32) &&& 0x3f).toInt64.toUInt64).toInt64) (0 : Int64)))])) _
      refine XS.ifYes X4.here hx rfl (pc0 := 27) (pc' := 71) rfl (hb hby d7_27) rfl ((if0 _ _).trans (teq ((lw_eq _ _).mpr hc6)).1) (by decide) (by decide) ?_
      show Steps p.tables e below (T4.setTop (mkF m 71 #[.val (.long j0), .second, .val (.long j2), .second, .val (.long v1), .second, .val (.long x3), .second, .val (.long x5), .second] [])) _
      refine XS.lload X4.here hx rfl (hb hby d7_71) rfl ?_
      exact k
    obtain ⟨rfl, rfl⟩ := own_inj hf
    exact Gl.outJ X4 hx hlk hret (hb hby d7_73) ⟨rfl, N4, by rw [e4]; exact O4⟩ (by show _ ≤ 0; omega) (by show _ ≤ 0; omega)
  · rw [if_neg hc6] at hf
    refine Gl.on (B := T4.setTop (mkF m 33 #[.val (.long j0), .second, .val (.long j2), .second, .val (.long v1), .second, .val (.long x3), .second, .val (.long x5), .second] [(.int (lcmpW j2 (0 : Int64)))])) (fun t k => ?_) ?_
    · show Steps p.tables e below (T4.setTop (mkF m 27 #[.val (.long j0), .second, .val (.long j2), .second, .val (.long v1), .second, .val (.long x3), .second, .val (.long x5), .second] [(.int (lcmpW (((x3 ||| x5).toUInt64 >>> ((31 : Int32) &&& 0x3f).toInt64.toUInt64).toInt64) (0 : Int64)))])) _
      refine XS.ifNo X4.here hx rfl (hb hby d7_27) rfl ((if0 _ _).trans (feq (mt (lw_eq _ _).mp hc6)).1) ?_
      show Steps p.tables e below (T4.setTop (mkF m 30 #[.val (.long j0), .second, .val (.long j2), .second, .val (.long v1), .second, .val (.long x3), .second, .val (.long x5), .second] [])) _
      refine XS.lloadN X4.here hx rfl (hb hby d7_30) rfl ?_
      show Steps p.tables e below (T4.setTop (mkF m 31 #[.val (.long j0), .second, .val (.long j2), .second, .val (.long v1), .second, .val (.long x3), .second, .val (.long x5), .second] [(.long j2)])) _
      refine XS.lconst X4.here hx rfl (hb hby d7_31) ?_
      show Steps p.tables e below (T4.setTop (mkF m 32 #[.val (.long j0), .second, .val (.long j2), .second, .val (.long v1), .second, .val (.long x3), .second, .val (.long x5), .second] [(.long (0 : Int64)), (.long j2)])) _
      refine XS.lcmp X4.here hx rfl (hb hby d7_32) rfl ?_
      exact k
    by_cases hc7 : j2 = (0 : Int64)
    · rw [if_pos hc7] at hf
      cases hf
    · rw [if_neg hc7] at hf
      refine Gl.on (B := T4.setTop (mkF m 39 #[.val (.long j0), .second, .val (.long j2), .second, .val (.long v1), .second, .val (.long x3), .second, .val (.long x5), .second] [(.long j2), (.long v1)])) (fun t k => ?_) ?_
      · show Steps p.tables e below (T4.setTop (mkF m 33 #[.val (.long j0), .second, .val (.long j2), .second, .val (.long v1), .second, .val (.long x3), .second, .val (.long x5), .second] [(.int (lcmpW j2 (0 : Int64)))])) _
        refine XS.ifNo X4.here hx rfl (hb hby d7_33) rfl ((if0 _ _).trans (feq (mt (lw_eq _ _).mp hc7)).1) ?_
        show Steps p.tables e below (T4.setTop (mkF m 36 #[.val (.long j0), .second, .val (.long j2), .second, .val (.long v1), .second, .val (.long x3), .second, .val (.long x5), .second] [])) _
        refine XS.lload X4.here hx rfl (hb hby d7_36) rfl ?_
        show Steps p.tables e below (T4.setTop (mkF m 38 #[.val (.long j0), .second, .val (.long j2), .second, .val (.long v1), .second, .val (.long x3), .second, .val (.long x5), .second] [(.long v1)])) _
        refine XS.lloadN X4.here hx rfl (hb hby d7_38) rfl ?_
        exact k
      by_cases hz8 : j2 = (0 : Int64)
      · rw [if_pos hz8] at hf; cases hf
      rw [if_neg hz8] at hf
      refine Gl.on (B := T4.setTop (mkF m 42 #[.val (.long j0), .second, .val (.long j2), .second, .val (.long v1), .second, .val (.long x3), .second, .val (.long x5), .second] [(.int (lcmpW (v1 / j2) j0))])) (fun t k => ?_) ?_
      · show Steps p.tables e below (T4.setTop (mkF m 39 #[.val (.long j0), .second, .val (.long j2), .second, .val (.long v1), .second, .val (.long x3), .second, .val (.long x5), .second] [(.long j2), (.long v1)])) _
        refine XS.ldiv X4.here hx rfl (hb hby d7_39) rfl hz8 ?_
        show Steps p.tables e below (T4.setTop (mkF m 40 #[.val (.long j0), .second, .val (.long j2), .second, .val (.long v1), .second, .val (.long x3), .second, .val (.long x5), .second] [(.long (v1 / j2))])) _
        refine XS.lloadN X4.here hx rfl (hb hby d7_40) rfl ?_
        show Steps p.tables e below (T4.setTop (mkF m 41 #[.val (.long j0), .second, .val (.long j2), .second, .val (.long v1), .second, .val (.long x3), .second, .val (.long x5), .second] [(.long j0), (.long (v1 / j2))])) _
        refine XS.lcmp X4.here hx rfl (hb hby d7_41) rfl ?_
        exact k
      by_cases hc9 : (v1 / j2) = j0
      · rw [if_pos hc9] at hf
        cases hf
      · rw [if_neg hc9] at hf
        cases hf
theorem pd_1 : parseMethodDescriptor "(JJ)J" = some ⟨[.long, .long], some .long⟩ := by decide +kernel
theorem d6_0 : decode jdk_29_method_29_code 0 = .ok (.lload_n 0, 1) := by decide +kernel
theorem d6_1 : decode jdk_29_method_29_code 1 = .ok (.iload_n 2, 1) := by decide +kernel
theorem d6_2 : decode jdk_29_method_29_code 2 = .ok (.i2l, 1) := by decide +kernel
theorem d6_3 : decode jdk_29_method_29_code 3 = .ok (.invokestatic 118, 3) := by decide +kernel
theorem d6_6 : decode jdk_29_method_29_code 6 = .ok (.lreturn, 1) := by decide +kernel
def f6 (D : Hp) (j0 : Int64) (i2 : Int32) : Option (Int64 × Hp) :=
  (f7 D j0 (i2.toInt64)).bind fun q1 => own_let q1.1 fun x2 => own_let q1.2 fun D1 =>
  some (x2, D1)
theorem ef_6 (m : MethodId) (j0 : Int64) (i2 : Int32) : entryFrame m #[(.long j0), (.int i2)] 3 = mkF m 0 #[.val (.long j0), .second, .val (.int i2)] [] := by first | (simp [entryFrame, mkF, argsToLocals, Value.category]; done) | rfl
set_option maxRecDepth 65536 in
set_option maxHeartbeats 40000000 in
theorem ct6 {l : Launch} {Z : State} {a0 : Array Value} (hw : ∀ d ∈ tables_1, d.before a0 Z = true) {n0 : Nat} {D D' : Hp} {j0 : Int64} {i2 : Int32} {r : Int64} (hf : f6 D j0 i2 = some (r, D')) :
    Ct Kt1 l Z (⟨"java/lang/Math", "multiplyExact", "(JI)J"⟩ : MethodName) (.code (⟨"java/lang/Math", "multiplyExact", "(JI)J"⟩ : MethodName) jdk_29_method_29_code 3 (some .long)) ({ frames := 2, cells := 0, slots := 0, locals := 34 } : Room) n0 D #[(.long j0), (.int i2)] (some (.long r)) D' := by
  refine Ct.of (Jvm.Free.JP.mathPlain rfl (by decide +kernel)) ?_
  intro p e s m below meth c T0 h0 hC X0 e0 O0
  obtain ⟨hx, hZ, hby, hml, hown, hnm, hret, hlk⟩ := id hC
  have hml : c.maxLocals = 3 := hml
  have hown : s.vm.findClass "java/lang/Math" = some m.cls := hown
  have hnm : meth.name = "multiplyExact" := hnm
  have N0 := Fr.nil n0
  refine Gl.on (fun t k => castTop (ef_6 m j0 i2) k) ?_
  rw [f6] at hf
  obtain ⟨⟨x2, D1⟩, hq1, hf⟩ := own_bind hf
  obtain ⟨_, rfl, hf⟩ := own_letE hf
  obtain ⟨_, rfl, hf⟩ := own_letE hf
  obtain ⟨T1, h1, L1, X1, e1, O1, N1, st1⟩ := callSW X0 hx hZ (y := (⟨"java/lang/Math", "multiplyExact", "(JJ)J"⟩ : MethodName)) hown (hw _ (List.mem_of_getElem? (i := 25) rfl)) (hw _ (List.mem_of_getElem? (i := 26) rfl)) (hw _ (List.mem_of_getElem? (i := 23) rfl)) (hw _ (List.mem_of_getElem? (i := 27) rfl)) (by decide) e0 O0 N0 (as' := [(.long j0), (.long (i2.toInt64))]) (ct7 hw hq1) (W := 0) (kc := 0) (ks := 0) rfl rfl (by decide) (by decide) (g := (mkF m 3 #[.val (.long j0), .second, .val (.int i2)] [(.long (i2.toInt64)), (.long j0)])) rfl (by rw [hml]; rfl) (rest := []) (lenOf pd_1 rfl) rfl (by show 2 * 0 + _ ≤ _; exact Nat.le_of_eq rfl) (hb hby d6_3) (by show _ + 0 ≤ 0; omega) (by show _ + 0 ≤ 0; omega)
  refine Gl.on (B := T1.setTop (mkF m 6 #[.val (.long j0), .second, .val (.int i2)] [(.long x2)])) (fun t k => ?_) ?_
  · show Steps p.tables e below (T0.setTop (mkF m 0 #[.val (.long j0), .second, .val (.int i2)] [])) _
    refine XS.lloadN X0.here hx rfl (hb hby d6_0) rfl ?_
    show Steps p.tables e below (T0.setTop (mkF m 1 #[.val (.long j0), .second, .val (.int i2)] [(.long j0)])) _
    refine XS.iloadN X0.here hx rfl (hb hby d6_1) rfl ?_
    show Steps p.tables e below (T0.setTop (mkF m 2 #[.val (.long j0), .second, .val (.int i2)] [(.int i2), (.long j0)])) _
    refine XS.i2l X0.here hx rfl (hb hby d6_2) rfl ?_
    show Steps p.tables e below (T0.setTop (mkF m 3 #[.val (.long j0), .second, .val (.int i2)] [(.long (i2.toInt64)), (.long j0)])) _
    refine st1 _ ?_
    exact k
  obtain ⟨rfl, rfl⟩ := own_inj hf
  exact Gl.outJ X1 hx hlk hret (hb hby d6_6) ⟨rfl, N1, by rw [e1]; exact O1⟩ (by show _ ≤ 0; omega) (by show _ ≤ 0; omega)
theorem d9_0 : decode jdk_29_method_25_code 0 = .ok (.lload_n 0, 1) := by decide +kernel
theorem d9_1 : decode jdk_29_method_25_code 1 = .ok (.lload_n 2, 1) := by decide +kernel
theorem d9_2 : decode jdk_29_method_25_code 2 = .ok (.ladd, 1) := by decide +kernel
theorem d9_3 : decode jdk_29_method_25_code 3 = .ok (.lstore 4, 2) := by decide +kernel
theorem d9_5 : decode jdk_29_method_25_code 5 = .ok (.lload_n 0, 1) := by decide +kernel
theorem d9_6 : decode jdk_29_method_25_code 6 = .ok (.lload 4, 2) := by decide +kernel
theorem d9_8 : decode jdk_29_method_25_code 8 = .ok (.lxor, 1) := by decide +kernel
theorem d9_9 : decode jdk_29_method_25_code 9 = .ok (.lload_n 2, 1) := by decide +kernel
theorem d9_10 : decode jdk_29_method_25_code 10 = .ok (.lload 4, 2) := by decide +kernel
theorem d9_12 : decode jdk_29_method_25_code 12 = .ok (.lxor, 1) := by decide +kernel
theorem d9_13 : decode jdk_29_method_25_code 13 = .ok (.land, 1) := by decide +kernel
theorem d9_14 : decode jdk_29_method_25_code 14 = .ok (.lconst 0, 1) := by decide +kernel
theorem d9_15 : decode jdk_29_method_25_code 15 = .ok (.lcmp, 1) := by decide +kernel
theorem d9_16 : decode jdk_29_method_25_code 16 = .ok (.ifCond .ge 13, 3) := by decide +kernel
theorem d9_29 : decode jdk_29_method_25_code 29 = .ok (.lload 4, 2) := by decide +kernel
theorem d9_31 : decode jdk_29_method_25_code 31 = .ok (.lreturn, 1) := by decide +kernel
def f9 (D : Hp) (j0 : Int64) (j2 : Int64) : Option (Int64 × Hp) :=
  own_let (j0 + j2) fun v1 =>
  if ((j0 ^^^ v1) &&& (j2 ^^^ v1)) < (0 : Int64) then (none) else (some (v1, D))
theorem ef_9 (m : MethodId) (j0 : Int64) (j2 : Int64) : entryFrame m #[(.long j0), (.long j2)] 6 = mkF m 0 #[.val (.long j0), .second, .val (.long j2), .second, .unset, .unset] [] := by first | (simp [entryFrame, mkF, argsToLocals, Value.category]; done) | rfl
set_option maxRecDepth 65536 in
set_option maxHeartbeats 40000000 in
theorem ct9 {l : Launch} {Z : State} {a0 : Array Value} (hw : ∀ d ∈ tables_1, d.before a0 Z = true) {n0 : Nat} {D D' : Hp} {j0 : Int64} {j2 : Int64} {r : Int64} (hf : f9 D j0 j2 = some (r, D')) :
    Ct Kt1 l Z (⟨"java/lang/Math", "addExact", "(JJ)J"⟩ : MethodName) (.code (⟨"java/lang/Math", "addExact", "(JJ)J"⟩ : MethodName) jdk_29_method_25_code 6 (some .long)) ({ frames := 0, cells := 0, slots := 0, locals := 0 } : Room) n0 D #[(.long j0), (.long j2)] (some (.long r)) D' := by
  refine Ct.of (Jvm.Free.JP.mathPlain rfl (by decide +kernel)) ?_
  intro p e s m below meth c T0 h0 hC X0 e0 O0
  obtain ⟨hx, hZ, hby, hml, hown, hnm, hret, hlk⟩ := id hC
  have hml : c.maxLocals = 6 := hml
  have hown : s.vm.findClass "java/lang/Math" = some m.cls := hown
  have hnm : meth.name = "addExact" := hnm
  have N0 := Fr.nil n0
  refine Gl.on (fun t k => castTop (ef_9 m j0 j2) k) ?_
  rw [f9] at hf
  obtain ⟨v1, hv1, hf⟩ := own_letE hf
  refine Gl.on (B := T0.setTop (mkF m 16 #[.val (.long j0), .second, .val (.long j2), .second, .val (.long v1), .second] [(.int (lcmpW ((j0 ^^^ v1) &&& (j2 ^^^ v1)) (0 : Int64)))])) (fun t k => ?_) ?_
  · show Steps p.tables e below (T0.setTop (mkF m 0 #[.val (.long j0), .second, .val (.long j2), .second, .unset, .unset] [])) _
    refine XS.lloadN X0.here hx rfl (hb hby d9_0) rfl ?_
    show Steps p.tables e below (T0.setTop (mkF m 1 #[.val (.long j0), .second, .val (.long j2), .second, .unset, .unset] [(.long j0)])) _
    refine XS.lloadN X0.here hx rfl (hb hby d9_1) rfl ?_
    show Steps p.tables e below (T0.setTop (mkF m 2 #[.val (.long j0), .second, .val (.long j2), .second, .unset, .unset] [(.long j2), (.long j0)])) _
    refine XS.ladd X0.here hx rfl (hb hby d9_2) rfl ?_
    show Steps p.tables e below (T0.setTop (mkF m 3 #[.val (.long j0), .second, .val (.long j2), .second, .unset, .unset] [(.long (j0 + j2))])) _
    refine own_to (congrArg (fun z => T0.setTop (mkF m 3 #[.val (.long j0), .second, .val (.long j2), .second, .unset, .unset] [(.long z)])) hv1) ?_
    show Steps p.tables e below (T0.setTop (mkF m 3 #[.val (.long j0), .second, .val (.long j2), .second, .unset, .unset] [(.long v1)])) _
    refine XS.lstore X0.here hx rfl (hb hby d9_3) rfl (l' := #[.val (.long j0), .second, .val (.long j2), .second, .val (.long v1), .second]) rfl ?_
    show Steps p.tables e below (T0.setTop (mkF m 5 #[.val (.long j0), .second, .val (.long j2), .second, .val (.long v1), .second] [])) _
    refine XS.lloadN X0.here hx rfl (hb hby d9_5) rfl ?_
    show Steps p.tables e below (T0.setTop (mkF m 6 #[.val (.long j0), .second, .val (.long j2), .second, .val (.long v1), .second] [(.long j0)])) _
    refine XS.lload X0.here hx rfl (hb hby d9_6) rfl ?_
    show Steps p.tables e below (T0.setTop (mkF m 8 #[.val (.long j0), .second, .val (.long j2), .second, .val (.long v1), .second] [(.long v1), (.long j0)])) _
    refine XS.lxor X0.here hx rfl (hb hby d9_8) rfl ?_
    show Steps p.tables e below (T0.setTop (mkF m 9 #[.val (.long j0), .second, .val (.long j2), .second, .val (.long v1), .second] [(.long (j0 ^^^ v1))])) _
    refine XS.lloadN X0.here hx rfl (hb hby d9_9) rfl ?_
    show Steps p.tables e below (T0.setTop (mkF m 10 #[.val (.long j0), .second, .val (.long j2), .second, .val (.long v1), .second] [(.long j2), (.long (j0 ^^^ v1))])) _
    refine XS.lload X0.here hx rfl (hb hby d9_10) rfl ?_
    show Steps p.tables e below (T0.setTop (mkF m 12 #[.val (.long j0), .second, .val (.long j2), .second, .val (.long v1), .second] [(.long v1), (.long j2), (.long (j0 ^^^ v1))])) _
    refine XS.lxor X0.here hx rfl (hb hby d9_12) rfl ?_
    show Steps p.tables e below (T0.setTop (mkF m 13 #[.val (.long j0), .second, .val (.long j2), .second, .val (.long v1), .second] [(.long (j2 ^^^ v1)), (.long (j0 ^^^ v1))])) _
    refine XS.land X0.here hx rfl (hb hby d9_13) rfl ?_
    show Steps p.tables e below (T0.setTop (mkF m 14 #[.val (.long j0), .second, .val (.long j2), .second, .val (.long v1), .second] [(.long ((j0 ^^^ v1) &&& (j2 ^^^ v1)))])) _
    refine XS.lconst X0.here hx rfl (hb hby d9_14) ?_
    show Steps p.tables e below (T0.setTop (mkF m 15 #[.val (.long j0), .second, .val (.long j2), .second, .val (.long v1), .second] [(.long (0 : Int64)), (.long ((j0 ^^^ v1) &&& (j2 ^^^ v1)))])) _
    refine XS.lcmp X0.here hx rfl (hb hby d9_15) rfl ?_
    exact k
  by_cases hc2 : ((j0 ^^^ v1) &&& (j2 ^^^ v1)) < (0 : Int64)
  · rw [if_pos hc2] at hf
    cases hf
  · rw [if_neg hc2] at hf
    refine Gl.on (B := T0.setTop (mkF m 31 #[.val (.long j0), .second, .val (.long j2), .second, .val (.long v1), .second] [(.long v1)])) (fun t k => ?_) ?_
    · show Steps p.tables e below (T0.setTop (mkF m 16 #[.val (.long j0), .second, .val (.long j2), .second, .val (.long v1), .second] [(.int (lcmpW ((j0 ^^^ v1) &&& (j2 ^^^ v1)) (0 : Int64)))])) _
      refine XS.ifYes X0.here hx rfl (pc0 := 16) (pc' := 29) rfl (hb hby d9_16) rfl ((if0 _ _).trans (flt (mt (lw_lt _ _).mp hc2)).2.1) (by decide) (by decide) ?_
      show Steps p.tables e below (T0.setTop (mkF m 29 #[.val (.long j0), .second, .val (.long j2), .second, .val (.long v1), .second] [])) _
      refine XS.lload X0.here hx rfl (hb hby d9_29) rfl ?_
      exact k
    obtain ⟨rfl, rfl⟩ := own_inj hf
    exact Gl.outJ X0 hx hlk hret (hb hby d9_31) ⟨rfl, N0, by rw [e0]; exact O0⟩ (by show _ ≤ 0; omega) (by show _ ≤ 0; omega)
theorem pd_2 : parseMethodDescriptor "(JI)J" = some ⟨[.long, .int], some .long⟩ := by decide +kernel
theorem d5_0 : decode prog_19_method_2_code 0 = .ok (.lconst 0, 1) := by decide +kernel
theorem d5_1 : decode prog_19_method_2_code 1 = .ok (.lstore_n 1, 1) := by decide +kernel
theorem d5_2 : decode prog_19_method_2_code 2 = .ok (.lconst 0, 1) := by decide +kernel
theorem d5_3 : decode prog_19_method_2_code 3 = .ok (.lstore_n 3, 1) := by decide +kernel
theorem d5_4 : decode prog_19_method_2_code 4 = .ok (.aload_n 0, 1) := by decide +kernel
theorem d5_5 : decode prog_19_method_2_code 5 = .ok (.astore 5, 2) := by decide +kernel
theorem d5_7 : decode prog_19_method_2_code 7 = .ok (.aload 5, 2) := by decide +kernel
theorem d5_9 : decode prog_19_method_2_code 9 = .ok (.arraylength, 1) := by decide +kernel
theorem d5_10 : decode prog_19_method_2_code 10 = .ok (.istore 6, 2) := by decide +kernel
theorem d5_12 : decode prog_19_method_2_code 12 = .ok (.iconst 0, 1) := by decide +kernel
theorem d5_13 : decode prog_19_method_2_code 13 = .ok (.istore 7, 2) := by decide +kernel
theorem d5_15 : decode prog_19_method_2_code 15 = .ok (.iload 7, 2) := by decide +kernel
theorem d5_17 : decode prog_19_method_2_code 17 = .ok (.iload 6, 2) := by decide +kernel
theorem d5_19 : decode prog_19_method_2_code 19 = .ok (.if_icmp .ge 42, 3) := by decide +kernel
theorem d5_22 : decode prog_19_method_2_code 22 = .ok (.aload 5, 2) := by decide +kernel
theorem d5_24 : decode prog_19_method_2_code 24 = .ok (.iload 7, 2) := by decide +kernel
theorem d5_26 : decode prog_19_method_2_code 26 = .ok (.iaload, 1) := by decide +kernel
theorem d5_27 : decode prog_19_method_2_code 27 = .ok (.istore 8, 2) := by decide +kernel
theorem d5_29 : decode prog_19_method_2_code 29 = .ok (.lload_n 1, 1) := by decide +kernel
theorem d5_30 : decode prog_19_method_2_code 30 = .ok (.lload_n 3, 1) := by decide +kernel
theorem d5_31 : decode prog_19_method_2_code 31 = .ok (.iload 8, 2) := by decide +kernel
theorem d5_33 : decode prog_19_method_2_code 33 = .ok (.invokestatic 7, 3) := by decide +kernel
theorem d5_36 : decode prog_19_method_2_code 36 = .ok (.invokestatic 13, 3) := by decide +kernel
theorem d5_39 : decode prog_19_method_2_code 39 = .ok (.lstore_n 1, 1) := by decide +kernel
theorem d5_40 : decode prog_19_method_2_code 40 = .ok (.goto 9, 3) := by decide +kernel
theorem d5_49 : decode prog_19_method_2_code 49 = .ok (.lload_n 3, 1) := by decide +kernel
theorem d5_50 : decode prog_19_method_2_code 50 = .ok (.iload 8, 2) := by decide +kernel
theorem d5_52 : decode prog_19_method_2_code 52 = .ok (.i2l, 1) := by decide +kernel
theorem d5_53 : decode prog_19_method_2_code 53 = .ok (.ladd, 1) := by decide +kernel
theorem d5_54 : decode prog_19_method_2_code 54 = .ok (.lstore_n 3, 1) := by decide +kernel
theorem d5_55 : decode prog_19_method_2_code 55 = .ok (.iinc 7 1, 3) := by decide +kernel
theorem d5_58 : decode prog_19_method_2_code 58 = .ok (.goto (-43), 3) := by decide +kernel
theorem d5_61 : decode prog_19_method_2_code 61 = .ok (.lload_n 1, 1) := by decide +kernel
theorem d5_62 : decode prog_19_method_2_code 62 = .ok (.lreturn, 1) := by decide +kernel
theorem pn_5 : plainName "com/example/pathweave/pathweave/core/Pairwise" = true := by first | (simp [plainName, overriddenIn]; done) | decide +kernel
def b5_15 : Nat → Hp → Int64 → Int64 → Nat → Int32 → Int32 → Option (Int64 × Hp)
  | 0, _, _, _, _, _, _ => none
  | fu + 1, D, j1, j3, ob5, i6, i7 =>
  if i7 < i6 then ((rI D ob5 0 i7).bind fun x3 =>
  (f6 D j3 x3).bind fun q4 => own_let q4.1 fun x5 => own_let q4.2 fun D4 =>
  (f9 D4 j1 x5).bind fun q6 => own_let q6.1 fun x7 => own_let q6.2 fun D6 =>
  own_let (j3 + (x3.toInt64)) fun v8 =>
  b5_15 fu D6 x7 v8 ob5 i6 (i7 + (1 : Int32))) else (some (j1, D))
set_option maxRecDepth 65536 in
set_option maxHeartbeats 40000000 in
theorem bt5_15 {p : Program} {l : Launch} {e : Env} {s : State} {m : MethodId} {args : Array Value} {below : List Frame} {meth : Method} {c : Code} {Z : State} {a0 : Array Value} {n0 : Nat} {D' : Hp} {r : Int64} (hw : ∀ d ∈ tables_1, d.before a0 Z = true) (hC : Cx p s m meth c Z prog_19_method_2_code 10 (some .long) "com/example/pathweave/pathweave/core/Pairwise" "pairCount") (fu : Nat) : ∀ {T0 : State} {locs : List Loc} {cells slots : Nat} {h0 : Heap} {D : Hp} {ob0 : Nat} {j1 : Int64} {j3 : Int64} {ob5 : Nat} {i6 : Int32} {i7 : Int32} {s8 : Slot}, (Stand p l e ({ frames := 3, cells := 0, slots := 0, locals := 50 } : Room) s m args below meth c T0 locs cells slots) → (T0.heap = h0) → (Ow Kt1 Z h0 n0 D) → (Fr n0 locs) → (cells ≤ 0) → (slots ≤ 0) → (One s8) → (b5_15 fu D j1 j3 ob5 i6 i7 = some (r, D')) → Gl p e below s 0 0 (Qw Kt1 Z n0 (some (.long r)) D') (T0.setTop (mkF m 15 #[.val (.ref (n0 + ob0)), .val (.long j1), .second, .val (.long j3), .second, .val (.ref (n0 + ob5)), .val (.int i6), .val (.int i7), s8, .unset] [])) := by
  obtain ⟨hx, hZ, hby, hml, hown, hnm, hret, hlk⟩ := id hC
  have hml : c.maxLocals = 10 := hml
  induction fu with
  | zero => intro T0 locs cells slots h0 D ob0 j1 j3 ob5 i6 i7 s8 X0 e0 O0 N0 hcc hss hs8 hf; cases hf
  | succ fu ih =>
    intro T0 locs cells slots h0 D ob0 j1 j3 ob5 i6 i7 s8 X0 e0 O0 N0 hcc hss hs8 hf
    rw [b5_15] at hf
    refine Gl.on (B := T0.setTop (mkF m 19 #[.val (.ref (n0 + ob0)), .val (.long j1), .second, .val (.long j3), .second, .val (.ref (n0 + ob5)), .val (.int i6), .val (.int i7), s8, .unset] [(.int i6), (.int i7)])) (fun t k => ?_) ?_
    · show Steps p.tables e below (T0.setTop (mkF m 15 #[.val (.ref (n0 + ob0)), .val (.long j1), .second, .val (.long j3), .second, .val (.ref (n0 + ob5)), .val (.int i6), .val (.int i7), s8, .unset] [])) _
      refine XS.iload X0.here hx rfl (hb hby d5_15) rfl ?_
      show Steps p.tables e below (T0.setTop (mkF m 17 #[.val (.ref (n0 + ob0)), .val (.long j1), .second, .val (.long j3), .second, .val (.ref (n0 + ob5)), .val (.int i6), .val (.int i7), s8, .unset] [(.int i7)])) _
      refine XS.iload X0.here hx rfl (hb hby d5_17) rfl ?_
      exact k
    by_cases hc2 : i7 < i6
    · rw [if_pos hc2] at hf
      obtain ⟨x3, hx3, hf⟩ := own_bind hf
      obtain ⟨⟨x5, D4⟩, hq4, hf⟩ := own_bind hf
      obtain ⟨_, rfl, hf⟩ := own_letE hf
      obtain ⟨_, rfl, hf⟩ := own_letE hf
      obtain ⟨T4, h4, L4, X4, e4, O4, N4, st4⟩ := callSW X0 hx hZ (y := (⟨"java/lang/Math", "multiplyExact", "(JI)J"⟩ : MethodName)) hown (hw _ (List.mem_of_getElem? (i := 21) rfl)) (hw _ (List.mem_of_getElem? (i := 22) rfl)) (hw _ (List.mem_of_getElem? (i := 23) rfl)) (hw _ (List.mem_of_getElem? (i := 24) rfl)) (by decide) e0 O0 N0 (as' := [(.long j3), (.int x3)]) (ct6 hw hq4) (W := 2) (kc := 0) (ks := 0) rfl rfl (by decide) (by decide) (g := (mkF m 33 #[.val (.ref (n0 + ob0)), .val (.long j1), .second, .val (.long j3), .second, .val (.ref (n0 + ob5)), .val (.int i6), .val (.int i7), .val (.int x3), .unset] [(.int x3), (.long j3), (.long j1)])) rfl (by rw [hml]; rfl) (rest := [(.long j1)]) (lenOf pd_2 rfl) rfl (by show 2 * 0 + _ ≤ _; exact Nat.le_of_eq rfl) (hb hby d5_33) (by show _ + 0 ≤ 0; omega) (by show _ + 0 ≤ 0; omega)
      obtain ⟨⟨x7, D6⟩, hq6, hf⟩ := own_bind hf
      obtain ⟨_, rfl, hf⟩ := own_letE hf
      obtain ⟨_, rfl, hf⟩ := own_letE hf
      obtain ⟨T6, h6, L6, X6, e6, O6, N6, st6⟩ := callSW X4 hx hZ (y := (⟨"java/lang/Math", "addExact", "(JJ)J"⟩ : MethodName)) hown (hw _ (List.mem_of_getElem? (i := 31) rfl)) (hw _ (List.mem_of_getElem? (i := 32) rfl)) (hw _ (List.mem_of_getElem? (i := 23) rfl)) (hw _ (List.mem_of_getElem? (i := 33) rfl)) (by decide) e4 O4 N4 (as' := [(.long j1), (.long x5)]) (ct9 hw hq6) (W := 0) (kc := 0) (ks := 0) rfl rfl (by decide) (by decide) (g := (mkF m 36 #[.val (.ref (n0 + ob0)), .val (.long j1), .second, .val (.long j3), .second, .val (.ref (n0 + ob5)), .val (.int i6), .val (.int i7), .val (.int x3), .unset] [(.long x5), (.long j1)])) rfl (by rw [hml]; rfl) (rest := []) (lenOf pd_1 rfl) rfl (by show 2 * 0 + _ ≤ _; exact Nat.le_of_eq rfl) (hb hby d5_36) (by show _ + 0 ≤ 0; omega) (by show _ + 0 ≤ 0; omega)
      obtain ⟨v8, hv8, hf⟩ := own_letE hf
      refine Gl.on (B := T6.setTop (mkF m 15 #[.val (.ref (n0 + ob0)), .val (.long x7), .second, .val (.long v8), .second, .val (.ref (n0 + ob5)), .val (.int i6), .val (.int (i7 + (1 : Int32))), .val (.int x3), .unset] [])) (fun t k => ?_) ?_
      · show Steps p.tables e below (T0.setTop (mkF m 19 #[.val (.ref (n0 + ob0)), .val (.long j1), .second, .val (.long j3), .second, .val (.ref (n0 + ob5)), .val (.int i6), .val (.int i7), s8, .unset] [(.int i6), (.int i7)])) _
        refine XS.icmpNo X0.here hx rfl (hb hby d5_19) rfl (tlt hc2).2.1 ?_
        show Steps p.tables e below (T0.setTop (mkF m 22 #[.val (.ref (n0 + ob0)), .val (.long j1), .second, .val (.long j3), .second, .val (.ref (n0 + ob5)), .val (.int i6), .val (.int i7), s8, .unset] [])) _
        refine XS.aload X0.here hx rfl (hb hby d5_22) rfl rfl ?_
        show Steps p.tables e below (T0.setTop (mkF m 24 #[.val (.ref (n0 + ob0)), .val (.long j1), .second, .val (.long j3), .second, .val (.ref (n0 + ob5)), .val (.int i6), .val (.int i7), s8, .unset] [(.ref (n0 + ob5))])) _
        refine XS.iload X0.here hx rfl (hb hby d5_24) rfl ?_
        show Steps p.tables e below (T0.setTop (mkF m 26 #[.val (.ref (n0 + ob0)), .val (.long j1), .second, .val (.long j3), .second, .val (.ref (n0 + ob5)), .val (.int i6), .val (.int i7), s8, .unset] [(.int i7), (.ref (n0 + ob5))])) _
        refine ldW X0 hx hZ e0 O0 hx3 rfl (g := (mkF m 26 #[.val (.ref (n0 + ob0)), .val (.long j1), .second, .val (.long j3), .second, .val (.ref (n0 + ob5)), .val (.int i6), .val (.int i7), s8, .unset] [(.int i7), (.ref (n0 + ob5))])) rfl rfl (hb hby d5_26) _ ?_
        show Steps p.tables e below (T0.setTop (mkF m 27 #[.val (.ref (n0 + ob0)), .val (.long j1), .second, .val (.long j3), .second, .val (.ref (n0 + ob5)), .val (.int i6), .val (.int i7), s8, .unset] [(.int x3)])) _
        refine XS.istore X0.here hx rfl (hb hby d5_27) rfl (l' := #[.val (.ref (n0 + ob0)), .val (.long j1), .second, .val (.long j3), .second, .val (.ref (n0 + ob5)), .val (.int i6), .val (.int i7), .val (.int x3), .unset]) (XS.store1 (o := s8) rfl hs8 rfl) ?_
        show Steps p.tables e below (T0.setTop (mkF m 29 #[.val (.ref (n0 + ob0)), .val (.long j1), .second, .val (.long j3), .second, .val (.ref (n0 + ob5)), .val (.int i6), .val (.int i7), .val (.int x3), .unset] [])) _
        refine XS.lloadN X0.here hx rfl (hb hby d5_29) rfl ?_
        show Steps p.tables e below (T0.setTop (mkF m 30 #[.val (.ref (n0 + ob0)), .val (.long j1), .second, .val (.long j3), .second, .val (.ref (n0 + ob5)), .val (.int i6), .val (.int i7), .val (.int x3), .unset] [(.long j1)])) _
        refine XS.lloadN X0.here hx rfl (hb hby d5_30) rfl ?_
        show Steps p.tables e below (T0.setTop (mkF m 31 #[.val (.ref (n0 + ob0)), .val (.long j1), .second, .val (.long j3), .second, .val (.ref (n0 + ob5)), .val (.int i6), .val (.int i7), .val (.int x3), .unset] [(.long j3), (.long j1)])) _
        refine XS.iload X0.here hx rfl (hb hby d5_31) rfl ?_
        show Steps p.tables e below (T0.setTop (mkF m 33 #[.val (.ref (n0 + ob0)), .val (.long j1), .second, .val (.long j3), .second, .val (.ref (n0 + ob5)), .val (.int i6), .val (.int i7), .val (.int x3), .unset] [(.int x3), (.long j3), (.long j1)])) _
        refine st4 _ ?_
        show Steps p.tables e below (T4.setTop (mkF m 36 #[.val (.ref (n0 + ob0)), .val (.long j1), .second, .val (.long j3), .second, .val (.ref (n0 + ob5)), .val (.int i6), .val (.int i7), .val (.int x3), .unset] [(.long x5), (.long j1)])) _
        refine st6 _ ?_
        show Steps p.tables e below (T6.setTop (mkF m 39 #[.val (.ref (n0 + ob0)), .val (.long j1), .second, .val (.long j3), .second, .val (.ref (n0 + ob5)), .val (.int i6), .val (.int i7), .val (.int x3), .unset] [(.long x7)])) _
        refine XS.lstoreN X6.here hx rfl (hb hby d5_39) rfl (l' := #[.val (.ref (n0 + ob0)), .val (.long x7), .second, .val (.long j3), .second, .val (.ref (n0 + ob5)), .val (.int i6), .val (.int i7), .val (.int x3), .unset]) rfl ?_
        show Steps p.tables e below (T6.setTop (mkF m 40 #[.val (.ref (n0 + ob0)), .val (.long x7), .second, .val (.long j3), .second, .val (.ref (n0 + ob5)), .val (.int i6), .val (.int i7), .val (.int x3), .unset] [])) _
        refine XS.goto X6.here hx rfl (pc0 := 40) (pc' := 49) rfl (hb hby d5_40) (by decide) (by decide) ?_
        show Steps p.tables e below (T6.setTop (mkF m 49 #[.val (.ref (n0 + ob0)), .val (.long x7), .second, .val (.long j3), .second, .val (.ref (n0 + ob5)), .val (.int i6), .val (.int i7), .val (.int x3), .unset] [])) _
        refine XS.lloadN X6.here hx rfl (hb hby d5_49) rfl ?_
        show Steps p.tables e below (T6.setTop (mkF m 50 #[.val (.ref (n0 + ob0)), .val (.long x7), .second, .val (.long j3), .second, .val (.ref (n0 + ob5)), .val (.int i6), .val (.int i7), .val (.int x3), .unset] [(.long j3)])) _
        refine XS.iload X6.here hx rfl (hb hby d5_50) rfl ?_
        show Steps p.tables e below (T6.setTop (mkF m 52 #[.val (.ref (n0 + ob0)), .val (.long x7), .second, .val (.long j3), .second, .val (.ref (n0 + ob5)), .val (.int i6), .val (.int i7), .val (.int x3), .unset] [(.int x3), (.long j3)])) _
        refine XS.i2l X6.here hx rfl (hb hby d5_52) rfl ?_
        show Steps p.tables e below (T6.setTop (mkF m 53 #[.val (.ref (n0 + ob0)), .val (.long x7), .second, .val (.long j3), .second, .val (.ref (n0 + ob5)), .val (.int i6), .val (.int i7), .val (.int x3), .unset] [(.long (x3.toInt64)), (.long j3)])) _
        refine XS.ladd X6.here hx rfl (hb hby d5_53) rfl ?_
        show Steps p.tables e below (T6.setTop (mkF m 54 #[.val (.ref (n0 + ob0)), .val (.long x7), .second, .val (.long j3), .second, .val (.ref (n0 + ob5)), .val (.int i6), .val (.int i7), .val (.int x3), .unset] [(.long (j3 + (x3.toInt64)))])) _
        refine own_to (congrArg (fun z => T6.setTop (mkF m 54 #[.val (.ref (n0 + ob0)), .val (.long x7), .second, .val (.long j3), .second, .val (.ref (n0 + ob5)), .val (.int i6), .val (.int i7), .val (.int x3), .unset] [(.long z)])) hv8) ?_
        show Steps p.tables e below (T6.setTop (mkF m 54 #[.val (.ref (n0 + ob0)), .val (.long x7), .second, .val (.long j3), .second, .val (.ref (n0 + ob5)), .val (.int i6), .val (.int i7), .val (.int x3), .unset] [(.long v8)])) _
        refine XS.lstoreN X6.here hx rfl (hb hby d5_54) rfl (l' := #[.val (.ref (n0 + ob0)), .val (.long x7), .second, .val (.long v8), .second, .val (.ref (n0 + ob5)), .val (.int i6), .val (.int i7), .val (.int x3), .unset]) rfl ?_
        show Steps p.tables e below (T6.setTop (mkF m 55 #[.val (.ref (n0 + ob0)), .val (.long x7), .second, .val (.long v8), .second, .val (.ref (n0 + ob5)), .val (.int i6), .val (.int i7), .val (.int x3), .unset] [])) _
        refine XS.iinc X6.here hx rfl (hb hby d5_55) rfl (l' := #[.val (.ref (n0 + ob0)), .val (.long x7), .second, .val (.long v8), .second, .val (.ref (n0 + ob5)), .val (.int i6), .val (.int (i7 + (1 : Int32))), .val (.int x3), .unset]) rfl ?_
        show Steps p.tables e below (T6.setTop (mkF m 58 #[.val (.ref (n0 + ob0)), .val (.long x7), .second, .val (.long v8), .second, .val (.ref (n0 + ob5)), .val (.int i6), .val (.int (i7 + (1 : Int32))), .val (.int x3), .unset] [])) _
        refine XS.goto X6.here hx rfl (pc0 := 58) (pc' := 15) rfl (hb hby d5_58) (by decide) (by decide) ?_
        exact k
      exact ih X6 e6 O6 N6 (by omega) (by omega) (One.val rfl) hf
    · rw [if_neg hc2] at hf
      refine Gl.on (B := T0.setTop (mkF m 62 #[.val (.ref (n0 + ob0)), .val (.long j1), .second, .val (.long j3), .second, .val (.ref (n0 + ob5)), .val (.int i6), .val (.int i7), s8, .unset] [(.long j1)])) (fun t k => ?_) ?_
      · show Steps p.tables e below (T0.setTop (mkF m 19 #[.val (.ref (n0 + ob0)), .val (.long j1), .second, .val (.long j3), .second, .val (.ref (n0 + ob5)), .val (.int i6), .val (.int i7), s8, .unset] [(.int i6), (.int i7)])) _
        refine XS.icmpYes X0.here hx rfl (pc0 := 19) (pc' := 61) rfl (hb hby d5_19) rfl (flt hc2).2.1 (by decide) (by decide) ?_
        show Steps p.tables e below (T0.setTop (mkF m 61 #[.val (.ref (n0 + ob0)), .val (.long j1), .second, .val (.long j3), .second, .val (.ref (n0 + ob5)), .val (.int i6), .val (.int i7), s8, .unset] [])) _
        refine XS.lloadN X0.here hx rfl (hb hby d5_61) rfl ?_
        exact k
      obtain ⟨rfl, rfl⟩ := own_inj hf
      exact Gl.outJ X0 hx hlk hret (hb hby d5_62) ⟨rfl, N0, by rw [e0]; exact O0⟩ (by show _ ≤ 0; omega) (by show _ ≤ 0; omega)
def f5 (D : Hp) (ob0 : Nat) : Option (Int64 × Hp) :=
  (lA D ob0 0).bind fun x1 =>
  b5_15 12 D (0 : Int64) (0 : Int64) ob0 x1 (0 : Int32)
theorem ef_5 (m : MethodId) (n0 : Nat) (ob0 : Nat) : entryFrame m #[(.ref (n0 + ob0))] 10 = mkF m 0 #[.val (.ref (n0 + ob0)), .unset, .unset, .unset, .unset, .unset, .unset, .unset, .unset, .unset] [] := by first | (simp [entryFrame, mkF, argsToLocals, Value.category]; done) | rfl
set_option maxRecDepth 65536 in
set_option maxHeartbeats 40000000 in
theorem ct5 {l : Launch} {Z : State} {a0 : Array Value} (hw : ∀ d ∈ tables_1, d.before a0 Z = true) {n0 : Nat} {D D' : Hp} {ob0 : Nat} {r : Int64} (hf : f5 D ob0 = some (r, D')) :
    Ct Kt1 l Z (⟨"com/example/pathweave/pathweave/core/Pairwise", "pairCount", "([I)J"⟩ : MethodName) (.codeWith (⟨"com/example/pathweave/pathweave/core/Pairwise", "pairCount", "([I)J"⟩ : MethodName) prog_19_method_2_code 10 (some .long) [((29 : Nat), (40 : Nat), (43 : Nat), (17 : Nat))]) ({ frames := 3, cells := 0, slots := 0, locals := 50 } : Room) n0 D #[(.ref (n0 + ob0))] (some (.long r)) D' := by
  refine Ct.ofH (plainFor_of_name pn_5) ?_
  intro p e s m below meth c T0 h0 hC X0 e0 O0
  obtain ⟨hx, hZ, hby, hml, hown, hnm, hret, hlk⟩ := id hC
  have hml : c.maxLocals = 10 := hml
  have hown : s.vm.findClass "com/example/pathweave/pathweave/core/Pairwise" = some m.cls := hown
  have hnm : meth.name = "pairCount" := hnm
  have N0 := Fr.nil n0
  refine Gl.on (fun t k => castTop (ef_5 m n0 ob0) k) ?_
  rw [f5] at hf
  obtain ⟨x1, hx1, hf⟩ := own_bind hf
  refine Gl.on (B := T0.setTop (mkF m 15 #[.val (.ref (n0 + ob0)), .val (.long (0 : Int64)), .second, .val (.long (0 : Int64)), .second, .val (.ref (n0 + ob0)), .val (.int x1), .val (.int (0 : Int32)), .unset, .unset] [])) (fun t k => ?_) ?_
  · show Steps p.tables e below (T0.setTop (mkF m 0 #[.val (.ref (n0 + ob0)), .unset, .unset, .unset, .unset, .unset, .unset, .unset, .unset, .unset] [])) _
    refine XS.lconst X0.here hx rfl (hb hby d5_0) ?_
    show Steps p.tables e below (T0.setTop (mkF m 1 #[.val (.ref (n0 + ob0)), .unset, .unset, .unset, .unset, .unset, .unset, .unset, .unset, .unset] [(.long (0 : Int64))])) _
    refine XS.lstoreN X0.here hx rfl (hb hby d5_1) rfl (l' := #[.val (.ref (n0 + ob0)), .val (.long (0 : Int64)), .second, .unset, .unset, .unset, .unset, .unset, .unset, .unset]) rfl ?_
    show Steps p.tables e below (T0.setTop (mkF m 2 #[.val (.ref (n0 + ob0)), .val (.long (0 : Int64)), .second, .unset, .unset, .unset, .unset, .unset, .unset, .unset] [])) _
    refine XS.lconst X0.here hx rfl (hb hby d5_2) ?_
    show Steps p.tables e below (T0.setTop (mkF m 3 #[.val (.ref (n0 + ob0)), .val (.long (0 : Int64)), .second, .unset, .unset, .unset, .unset, .unset, .unset, .unset] [(.long (0 : Int64))])) _
    refine XS.lstoreN X0.here hx rfl (hb hby d5_3) rfl (l' := #[.val (.ref (n0 + ob0)), .val (.long (0 : Int64)), .second, .val (.long (0 : Int64)), .second, .unset, .unset, .unset, .unset, .unset]) rfl ?_
    show Steps p.tables e below (T0.setTop (mkF m 4 #[.val (.ref (n0 + ob0)), .val (.long (0 : Int64)), .second, .val (.long (0 : Int64)), .second, .unset, .unset, .unset, .unset, .unset] [])) _
    refine XS.aloadN X0.here hx rfl (hb hby d5_4) rfl rfl ?_
    show Steps p.tables e below (T0.setTop (mkF m 5 #[.val (.ref (n0 + ob0)), .val (.long (0 : Int64)), .second, .val (.long (0 : Int64)), .second, .unset, .unset, .unset, .unset, .unset] [(.ref (n0 + ob0))])) _
    refine XS.astore X0.here hx rfl (hb hby d5_5) rfl rfl (l' := #[.val (.ref (n0 + ob0)), .val (.long (0 : Int64)), .second, .val (.long (0 : Int64)), .second, .val (.ref (n0 + ob0)), .unset, .unset, .unset, .unset]) rfl ?_
    show Steps p.tables e below (T0.setTop (mkF m 7 #[.val (.ref (n0 + ob0)), .val (.long (0 : Int64)), .second, .val (.long (0 : Int64)), .second, .val (.ref (n0 + ob0)), .unset, .unset, .unset, .unset] [])) _
    refine XS.aload X0.here hx rfl (hb hby d5_7) rfl rfl ?_
    show Steps p.tables e below (T0.setTop (mkF m 9 #[.val (.ref (n0 + ob0)), .val (.long (0 : Int64)), .second, .val (.long (0 : Int64)), .second, .val (.ref (n0 + ob0)), .unset, .unset, .unset, .unset] [(.ref (n0 + ob0))])) _
    refine lenW' X0 hx hZ e0 O0 hx1 (ty := .int) rfl (g := (mkF m 9 #[.val (.ref (n0 + ob0)), .val (.long (0 : Int64)), .second, .val (.long (0 : Int64)), .second, .val (.ref (n0 + ob0)), .unset, .unset, .unset, .unset] [(.ref (n0 + ob0))])) rfl rfl (hb hby d5_9) _ ?_
    show Steps p.tables e below (T0.setTop (mkF m 10 #[.val (.ref (n0 + ob0)), .val (.long (0 : Int64)), .second, .val (.long (0 : Int64)), .second, .val (.ref (n0 + ob0)), .unset, .unset, .unset, .unset] [(.int x1)])) _
    refine XS.istore X0.here hx rfl (hb hby d5_10) rfl (l' := #[.val (.ref (n0 + ob0)), .val (.long (0 : Int64)), .second, .val (.long (0 : Int64)), .second, .val (.ref (n0 + ob0)), .val (.int x1), .unset, .unset, .unset]) rfl ?_
    show Steps p.tables e below (T0.setTop (mkF m 12 #[.val (.ref (n0 + ob0)), .val (.long (0 : Int64)), .second, .val (.long (0 : Int64)), .second, .val (.ref (n0 + ob0)), .val (.int x1), .unset, .unset, .unset] [])) _
    refine XS.iconst X0.here hx rfl (hb hby d5_12) ?_
    show Steps p.tables e below (T0.setTop (mkF m 13 #[.val (.ref (n0 + ob0)), .val (.long (0 : Int64)), .second, .val (.long (0 : Int64)), .second, .val (.ref (n0 + ob0)), .val (.int x1), .unset, .unset, .unset] [(.int (0 : Int32))])) _
    refine XS.istore X0.here hx rfl (hb hby d5_13) rfl (l' := #[.val (.ref (n0 + ob0)), .val (.long (0 : Int64)), .second, .val (.long (0 : Int64)), .second, .val (.ref (n0 + ob0)), .val (.int x1), .val (.int (0 : Int32)), .unset, .unset]) rfl ?_
    exact k
  exact bt5_15 hw hC 12 X0 e0 O0 N0 (by omega) (by omega) One.u hf
theorem pd_3 : parseMethodDescriptor "([I)J" = some ⟨[(.array .int)], some .long⟩ := by decide +kernel
theorem d3_0 : decode prog_16_method_1_code 0 = .ok (.aload_n 0, 1) := by decide +kernel
theorem d3_1 : decode prog_16_method_1_code 1 = .ok (.invokespecial 1, 3) := by decide +kernel
theorem d3_4 : decode prog_16_method_1_code 4 = .ok (.aload_n 1, 1) := by decide +kernel
theorem d3_5 : decode prog_16_method_1_code 5 = .ok (.invokestatic 7, 3) := by decide +kernel
theorem d3_8 : decode prog_16_method_1_code 8 = .ok (.lstore_n 2, 1) := by decide +kernel
theorem d3_9 : decode prog_16_method_1_code 9 = .ok (.lload_n 2, 1) := by decide +kernel
theorem d3_10 : decode prog_16_method_1_code 10 = .ok (.ldc2_w 13, 3) := by decide +kernel
theorem d3_13 : decode prog_16_method_1_code 13 = .ok (.lcmp, 1) := by decide +kernel
theorem d3_14 : decode prog_16_method_1_code 14 = .ok (.ifCond .le 17, 3) := by decide +kernel
theorem d3_31 : decode prog_16_method_1_code 31 = .ok (.aload_n 0, 1) := by decide +kernel
theorem d3_32 : decode prog_16_method_1_code 32 = .ok (.aload_n 1, 1) := by decide +kernel
theorem d3_33 : decode prog_16_method_1_code 33 = .ok (.invokevirtual 24, 3) := by decide +kernel
theorem d3_36 : decode prog_16_method_1_code 36 = .ok (.checkcast 25, 3) := by decide +kernel
theorem d3_39 : decode prog_16_method_1_code 39 = .ok (.putfield 30, 3) := by decide +kernel
theorem d3_42 : decode prog_16_method_1_code 42 = .ok (.aload_n 0, 1) := by decide +kernel
theorem d3_43 : decode prog_16_method_1_code 43 = .ok (.aload_n 1, 1) := by decide +kernel
theorem d3_44 : decode prog_16_method_1_code 44 = .ok (.arraylength, 1) := by decide +kernel
theorem d3_45 : decode prog_16_method_1_code 45 = .ok (.iconst 1, 1) := by decide +kernel
theorem d3_46 : decode prog_16_method_1_code 46 = .ok (.iadd, 1) := by decide +kernel
theorem d3_47 : decode prog_16_method_1_code 47 = .ok (.newarray .int, 2) := by decide +kernel
theorem d3_49 : decode prog_16_method_1_code 49 = .ok (.putfield 35, 3) := by decide +kernel
theorem d3_52 : decode prog_16_method_1_code 52 = .ok (.iconst 0, 1) := by decide +kernel
theorem d3_53 : decode prog_16_method_1_code 53 = .ok (.istore 4, 2) := by decide +kernel
theorem d3_55 : decode prog_16_method_1_code 55 = .ok (.iload 4, 2) := by decide +kernel
theorem d3_57 : decode prog_16_method_1_code 57 = .ok (.aload_n 1, 1) := by decide +kernel
theorem d3_58 : decode prog_16_method_1_code 58 = .ok (.arraylength, 1) := by decide +kernel
theorem d3_59 : decode prog_16_method_1_code 59 = .ok (.if_icmp .ge 30, 3) := by decide +kernel
theorem d3_62 : decode prog_16_method_1_code 62 = .ok (.aload_n 0, 1) := by decide +kernel
theorem d3_63 : decode prog_16_method_1_code 63 = .ok (.getfield 35, 3) := by decide +kernel
theorem d3_66 : decode prog_16_method_1_code 66 = .ok (.iload 4, 2) := by decide +kernel
theorem d3_68 : decode prog_16_method_1_code 68 = .ok (.iconst 1, 1) := by decide +kernel
theorem d3_69 : decode prog_16_method_1_code 69 = .ok (.iadd, 1) := by decide +kernel
theorem d3_70 : decode prog_16_method_1_code 70 = .ok (.aload_n 0, 1) := by decide +kernel
theorem d3_71 : decode prog_16_method_1_code 71 = .ok (.getfield 35, 3) := by decide +kernel
theorem d3_74 : decode prog_16_method_1_code 74 = .ok (.iload 4, 2) := by decide +kernel
theorem d3_76 : decode prog_16_method_1_code 76 = .ok (.iaload, 1) := by decide +kernel
theorem d3_77 : decode prog_16_method_1_code 77 = .ok (.aload_n 1, 1) := by decide +kernel
theorem d3_78 : decode prog_16_method_1_code 78 = .ok (.iload 4, 2) := by decide +kernel
theorem d3_80 : decode prog_16_method_1_code 80 = .ok (.iaload, 1) := by decide +kernel
theorem d3_81 : decode prog_16_method_1_code 81 = .ok (.iadd, 1) := by decide +kernel
theorem d3_82 : decode prog_16_method_1_code 82 = .ok (.iastore, 1) := by decide +kernel
theorem d3_83 : decode prog_16_method_1_code 83 = .ok (.iinc 4 1, 3) := by decide +kernel
theorem d3_86 : decode prog_16_method_1_code 86 = .ok (.goto (-31), 3) := by decide +kernel
theorem d3_89 : decode prog_16_method_1_code 89 = .ok (.aload_n 0, 1) := by decide +kernel
theorem d3_90 : decode prog_16_method_1_code 90 = .ok (.aload_n 1, 1) := by decide +kernel
theorem d3_91 : decode prog_16_method_1_code 91 = .ok (.arraylength, 1) := by decide +kernel
theorem d3_92 : decode prog_16_method_1_code 92 = .ok (.newarray .int, 2) := by decide +kernel
theorem d3_94 : decode prog_16_method_1_code 94 = .ok (.putfield 38, 3) := by decide +kernel
theorem d3_97 : decode prog_16_method_1_code 97 = .ok (.iconst 1, 1) := by decide +kernel
theorem d3_98 : decode prog_16_method_1_code 98 = .ok (.istore 4, 2) := by decide +kernel
theorem d3_100 : decode prog_16_method_1_code 100 = .ok (.iload 4, 2) := by decide +kernel
theorem d3_102 : decode prog_16_method_1_code 102 = .ok (.aload_n 1, 1) := by decide +kernel
theorem d3_103 : decode prog_16_method_1_code 103 = .ok (.arraylength, 1) := by decide +kernel
theorem d3_104 : decode prog_16_method_1_code 104 = .ok (.if_icmp .ge 48, 3) := by decide +kernel
theorem d3_107 : decode prog_16_method_1_code 107 = .ok (.aload_n 0, 1) := by decide +kernel
theorem d3_108 : decode prog_16_method_1_code 108 = .ok (.getfield 38, 3) := by decide +kernel
theorem d3_111 : decode prog_16_method_1_code 111 = .ok (.iload 4, 2) := by decide +kernel
theorem d3_113 : decode prog_16_method_1_code 113 = .ok (.aload_n 0, 1) := by decide +kernel
theorem d3_114 : decode prog_16_method_1_code 114 = .ok (.getfield 38, 3) := by decide +kernel
theorem d3_117 : decode prog_16_method_1_code 117 = .ok (.iload 4, 2) := by decide +kernel
theorem d3_119 : decode prog_16_method_1_code 119 = .ok (.iconst 1, 1) := by decide +kernel
theorem d3_120 : decode prog_16_method_1_code 120 = .ok (.isub, 1) := by decide +kernel
theorem d3_121 : decode prog_16_method_1_code 121 = .ok (.iaload, 1) := by decide +kernel
theorem d3_122 : decode prog_16_method_1_code 122 = .ok (.aload_n 1, 1) := by decide +kernel
theorem d3_123 : decode prog_16_method_1_code 123 = .ok (.iload 4, 2) := by decide +kernel
theorem d3_125 : decode prog_16_method_1_code 125 = .ok (.iconst 1, 1) := by decide +kernel
theorem d3_126 : decode prog_16_method_1_code 126 = .ok (.isub, 1) := by decide +kernel
theorem d3_127 : decode prog_16_method_1_code 127 = .ok (.iaload, 1) := by decide +kernel
theorem d3_128 : decode prog_16_method_1_code 128 = .ok (.aload_n 0, 1) := by decide +kernel
theorem d3_129 : decode prog_16_method_1_code 129 = .ok (.getfield 35, 3) := by decide +kernel
theorem d3_132 : decode prog_16_method_1_code 132 = .ok (.aload_n 1, 1) := by decide +kernel
theorem d3_133 : decode prog_16_method_1_code 133 = .ok (.arraylength, 1) := by decide +kernel
theorem d3_134 : decode prog_16_method_1_code 134 = .ok (.iaload, 1) := by decide +kernel
theorem d3_135 : decode prog_16_method_1_code 135 = .ok (.aload_n 0, 1) := by decide +kernel
theorem d3_136 : decode prog_16_method_1_code 136 = .ok (.getfield 35, 3) := by decide +kernel
theorem d3_139 : decode prog_16_method_1_code 139 = .ok (.iload 4, 2) := by decide +kernel
theorem d3_141 : decode prog_16_method_1_code 141 = .ok (.iaload, 1) := by decide +kernel
theorem d3_142 : decode prog_16_method_1_code 142 = .ok (.isub, 1) := by decide +kernel
theorem d3_143 : decode prog_16_method_1_code 143 = .ok (.imul, 1) := by decide +kernel
theorem d3_144 : decode prog_16_method_1_code 144 = .ok (.iadd, 1) := by decide +kernel
theorem d3_145 : decode prog_16_method_1_code 145 = .ok (.iastore, 1) := by decide +kernel
theorem d3_146 : decode prog_16_method_1_code 146 = .ok (.iinc 4 1, 3) := by decide +kernel
theorem d3_149 : decode prog_16_method_1_code 149 = .ok (.goto (-49), 3) := by decide +kernel
theorem d3_152 : decode prog_16_method_1_code 152 = .ok (.aload_n 0, 1) := by decide +kernel
theorem d3_153 : decode prog_16_method_1_code 153 = .ok (.lload_n 2, 1) := by decide +kernel
theorem d3_154 : decode prog_16_method_1_code 154 = .ok (.l2i, 1) := by decide +kernel
theorem d3_155 : decode prog_16_method_1_code 155 = .ok (.putfield 41, 3) := by decide +kernel
theorem d3_158 : decode prog_16_method_1_code 158 = .ok (.return_, 1) := by decide +kernel
theorem pn_3 : plainName "com/example/pathweave/pathweave/core/PairIndex" = true := by first | (simp [plainName, overriddenIn]; done) | decide +kernel
def b3_100 : Nat → Hp → Nat → Nat → Int64 → Int32 → Option (Hp)
  | 0, _, _, _, _, _ => none
  | fu + 1, D, ob0, ob1, j2, i4 =>
  (lA D ob1 0).bind fun x24 =>
  if i4 < x24 then ((gR D ob0 1 2).bind fun x26 =>
  (gR D ob0 1 2).bind fun x28 =>
  (rI D x28 0 (i4 - (1 : Int32))).bind fun x30 =>
  (rI D ob1 0 (i4 - (1 : Int32))).bind fun x31 =>
  (gR D ob0 1 1).bind fun x32 =>
  (lA D ob1 0).bind fun x34 =>
  (rI D x32 0 x34).bind fun x35 =>
  (gR D ob0 1 1).bind fun x36 =>
  (rI D x36 0 i4).bind fun x38 =>
  (wV D x26 0 i4 (.int (x30 + (x31 * (x35 - x38))))).bind fun D39 =>
  b3_100 fu D39 ob0 ob1 j2 (i4 + (1 : Int32))) else ((pV D ob0 1 3 (.int (j2.toInt32))).bind fun D40 =>
  some D40)
set_option maxRecDepth 65536 in
set_option maxHeartbeats 40000000 in
theorem bt3_100 {p : Program} {l : Launch} {e : Env} {s : State} {m : MethodId} {args : Array Value} {below : List Frame} {meth : Method} {c : Code} {Z : State} {a0 : Array Value} {n0 : Nat} {D' : Hp} (hw : ∀ d ∈ tables_1, d.before a0 Z = true) (hC : Cx p s m meth c Z prog_16_method_1_code 5 none "com/example/pathweave/pathweave/core/PairIndex" "<init>") (fu : Nat) : ∀ {T0 : State} {locs : List Loc} {cells slots : Nat} {h0 : Heap} {D : Hp} {ob0 : Nat} {ob1 : Nat} {j2 : Int64} {i4 : Int32}, (Stand p l e ({ frames := 4, cells := 3, slots := 24, locals := 71 } : Room) s m args below meth c T0 locs cells slots) → (T0.heap = h0) → (Ow Kt1 Z h0 n0 D) → (Fr n0 locs) → (cells ≤ 3) → (slots ≤ 24) → (b3_100 fu D ob0 ob1 j2 i4 = some D') → Gl p e below s 3 24 (Qw Kt1 Z n0 none D') (T0.setTop (mkF m 100 #[.val (.ref (n0 + ob0)), .val (.ref (n0 + ob1)), .val (.long j2), .second, .val (.int i4)] [])) := by
  obtain ⟨hx, hZ, hby, hml, hown, hnm, hret, hlk⟩ := id hC
  have hml : c.maxLocals = 5 := hml
  induction fu with
  | zero => intro T0 locs cells slots h0 D ob0 ob1 j2 i4 X0 e0 O0 N0 hcc hss hf; cases hf
  | succ fu ih =>
    intro T0 locs cells slots h0 D ob0 ob1 j2 i4 X0 e0 O0 N0 hcc hss hf
    rw [b3_100] at hf
    obtain ⟨x24, hx24, hf⟩ := own_bind hf
    refine Gl.on (B := T0.setTop (mkF m 104 #[.val (.ref (n0 + ob0)), .val (.ref (n0 + ob1)), .val (.long j2), .second, .val (.int i4)] [(.int x24), (.int i4)])) (fun t k => ?_) ?_
    · show Steps p.tables e below (T0.setTop (mkF m 100 #[.val (.ref (n0 + ob0)), .val (.ref (n0 + ob1)), .val (.long j2), .second, .val (.int i4)] [])) _
      refine XS.iload X0.here hx rfl (hb hby d3_100) rfl ?_
      show Steps p.tables e below (T0.setTop (mkF m 102 #[.val (.ref (n0 + ob0)), .val (.ref (n0 + ob1)), .val (.long j2), .second, .val (.int i4)] [(.int i4)])) _
      refine XS.aloadN X0.here hx rfl (hb hby d3_102) rfl rfl ?_
      show Steps p.tables e below (T0.setTop (mkF m 103 #[.val (.ref (n0 + ob0)), .val (.ref (n0 + ob1)), .val (.long j2), .second, .val (.int i4)] [(.ref (n0 + ob1)), (.int i4)])) _
      refine lenW' X0 hx hZ e0 O0 hx24 (ty := .int) rfl (g := (mkF m 103 #[.val (.ref (n0 + ob0)), .val (.ref (n0 + ob1)), .val (.long j2), .second, .val (.int i4)] [(.ref (n0 + ob1)), (.int i4)])) rfl rfl (hb hby d3_103) _ ?_
      exact k
    by_cases hc25 : i4 < x24
    · rw [if_pos hc25] at hf
      obtain ⟨x26, hx26, hf⟩ := own_bind hf
      obtain ⟨T27, X27, e27, st27⟩ := getF X0 hx hZ hown (host := "") (Or.inl (hw _ (List.mem_of_getElem? (i := 48) rfl))) Via.refl e0 (O0.fld (gR_e hx26) rfl rfl) (g := (mkF m 108 #[.val (.ref (n0 + ob0)), .val (.ref (n0 + ob1)), .val (.long j2), .second, .val (.int i4)] [(.ref (n0 + ob0))])) rfl rfl (hb hby d3_108)
      obtain ⟨x28, hx28, hf⟩ := own_bind hf
      obtain ⟨T29, X29, e29, st29⟩ := getF X27 hx hZ hown (host := "") (Or.inl (hw _ (List.mem_of_getElem? (i := 48) rfl))) Via.refl e27 (O0.fld (gR_e hx28) rfl rfl) (g := (mkF m 114 #[.val (.ref (n0 + ob0)), .val (.ref (n0 + ob1)), .val (.long j2), .second, .val (.int i4)] [(.ref (n0 + ob0)), (.int i4), (.ref (n0 + x26))])) rfl rfl (hb hby d3_114)
      obtain ⟨x30, hx30, hf⟩ := own_bind hf
      obtain ⟨x31, hx31, hf⟩ := own_bind hf
      obtain ⟨x32, hx32, hf⟩ := own_bind hf
      obtain ⟨T33, X33, e33, st33⟩ := getF X29 hx hZ hown (host := "") (Or.inl (hw _ (List.mem_of_getElem? (i := 46) rfl))) Via.refl e29 (O0.fld (gR_e hx32) rfl rfl) (g := (mkF m 129 #[.val (.ref (n0 + ob0)), .val (.ref (n0 + ob1)), .val (.long j2), .second, .val (.int i4)] [(.ref (n0 + ob0)), (.int x31), (.int x30), (.int i4), (.ref (n0 + x26))])) rfl rfl (hb hby d3_129)
      obtain ⟨x34, hx34, hf⟩ := own_bind hf
      obtain ⟨x35, hx35, hf⟩ := own_bind hf
      obtain ⟨x36, hx36, hf⟩ := own_bind hf
      obtain ⟨T37, X37, e37, st37⟩ := getF X33 hx hZ hown (host := "") (Or.inl (hw _ (List.mem_of_getElem? (i := 46) rfl))) Via.refl e33 (O0.fld (gR_e hx36) rfl rfl) (g := (mkF m 136 #[.val (.ref (n0 + ob0)), .val (.ref (n0 + ob1)), .val (.long j2), .second, .val (.int i4)] [(.ref (n0 + ob0)), (.int x35), (.int x31), (.int x30), (.int i4), (.ref (n0 + x26))])) rfl rfl (hb hby d3_136)
      obtain ⟨x38, hx38, hf⟩ := own_bind hf
      obtain ⟨D39, hq39, hf⟩ := own_bind hf
      obtain ⟨T39, h39, L39, X39, e39, O39, N39, st39⟩ := stIW X37 hx hZ e37 O0 N0 hq39 rfl (g := (mkF m 145 #[.val (.ref (n0 + ob0)), .val (.ref (n0 + ob1)), .val (.long j2), .second, .val (.int i4)] [(.int (x30 + (x31 * (x35 - x38)))), (.int i4), (.ref (n0 + x26))])) rfl rfl (hb hby d3_145)
      refine Gl.on (B := T39.setTop (mkF m 100 #[.val (.ref (n0 + ob0)), .val (.ref (n0 + ob1)), .val (.long j2), .second, .val (.int (i4 + (1 : Int32)))] [])) (fun t k => ?_) ?_
      · show Steps p.tables e below (T0.setTop (mkF m 104 #[.val (.ref (n0 + ob0)), .val (.ref (n0 + ob1)), .val (.long j2), .second, .val (.int i4)] [(.int x24), (.int i4)])) _
        refine XS.icmpNo X0.here hx rfl (hb hby d3_104) rfl (tlt hc25).2.1 ?_
        show Steps p.tables e below (T0.setTop (mkF m 107 #[.val (.ref (n0 + ob0)), .val (.ref (n0 + ob1)), .val (.long j2), .second, .val (.int i4)] [])) _
        refine XS.aloadN X0.here hx rfl (hb hby d3_107) rfl rfl ?_
        show Steps p.tables e below (T0.setTop (mkF m 108 #[.val (.ref (n0 + ob0)), .val (.ref (n0 + ob1)), .val (.long j2), .second, .val (.int i4)] [(.ref (n0 + ob0))])) _
        refine st27 _ ?_
        show Steps p.tables e below (T27.setTop (mkF m 111 #[.val (.ref (n0 + ob0)), .val (.ref (n0 + ob1)), .val (.long j2), .second, .val (.int i4)] [(.ref (n0 + x26))])) _
        refine XS.iload X27.here hx rfl (hb hby d3_111) rfl ?_
        show Steps p.tables e below (T27.setTop (mkF m 113 #[.val (.ref (n0 + ob0)), .val (.ref (n0 + ob1)), .val (.long j2), .second, .val (.int i4)] [(.int i4), (.ref (n0 + x26))])) _
        refine XS.aloadN X27.here hx rfl (hb hby d3_113) rfl rfl ?_
        show Steps p.tables e below (T27.setTop (mkF m 114 #[.val (.ref (n0 + ob0)), .val (.ref (n0 + ob1)), .val (.long j2), .second, .val (.int i4)] [(.ref (n0 + ob0)), (.int i4), (.ref (n0 + x26))])) _
        refine st29 _ ?_
        show Steps p.tables e below (T29.setTop (mkF m 117 #[.val (.ref (n0 + ob0)), .val (.ref (n0 + ob1)), .val (.long j2), .second, .val (.int i4)] [(.ref (n0 + x28)), (.int i4), (.ref (n0 + x26))])) _
        refine XS.iload X29.here hx rfl (hb hby d3_117) rfl ?_
        show Steps p.tables e below (T29.setTop (mkF m 119 #[.val (.ref (n0 + ob0)), .val (.ref (n0 + ob1)), .val (.long j2), .second, .val (.int i4)] [(.int i4), (.ref (n0 + x28)), (.int i4), (.ref (n0 + x26))])) _
        refine XS.iconst X29.here hx rfl (hb hby d3_119) ?_
        show Steps p.tables e below (T29.setTop (mkF m 120 #[.val (.ref (n0 + ob0)), .val (.ref (n0 + ob1)), .val (.long j2), .second, .val (.int i4)] [(.int (1 : Int32)), (.int i4), (.ref (n0 + x28)), (.int i4), (.ref (n0 + x26))])) _
        refine XS.isub X29.here hx rfl (hb hby d3_120) rfl ?_
        show Steps p.tables e below (T29.setTop (mkF m 121 #[.val (.ref (n0 + ob0)), .val (.ref (n0 + ob1)), .val (.long j2), .second, .val (.int i4)] [(.int (i4 - (1 : Int32))), (.ref (n0 + x28)), (.int i4), (.ref (n0 + x26))])) _
        refine ldW X29 hx hZ e29 O0 hx30 rfl (g := (mkF m 121 #[.val (.ref (n0 + ob0)), .val (.ref (n0 + ob1)), .val (.long j2), .second, .val (.int i4)] [(.int (i4 - (1 : Int32))), (.ref (n0 + x28)), (.int i4), (.ref (n0 + x26))])) rfl rfl (hb hby d3_121) _ ?_
        show Steps p.tables e below (T29.setTop (mkF m 122 #[.val (.ref (n0 + ob0)), .val (.ref (n0 + ob1)), .val (.long j2), .second, .val (.int i4)] [(.int x30), (.int i4), (.ref (n0 + x26))])) _
        refine XS.aloadN X29.here hx rfl (hb hby d3_122) rfl rfl ?_
        show Steps p.tables e below (T29.setTop (mkF m 123 #[.val (.ref (n0 + ob0)), .val (.ref (n0 + ob1)), .val (.long j2), .second, .val (.int i4)] [(.ref (n0 + ob1)), (.int x30), (.int i4), (.ref (n0 + x26))])) _
        refine XS.iload X29.here hx rfl (hb hby d3_123) rfl ?_
        show Steps p.tables e below (T29.setTop (mkF m 125 #[.val (.ref (n0 + ob0)), .val (.ref (n0 + ob1)), .val (.long j2), .second, .val (.int i4)] [(.int i4), (.ref (n0 + ob1)), (.int x30), (.int i4), (.ref (n0 + x26))])) _
        refine XS.iconst X29.here hx rfl (hb hby d3_125) ?_
        show Steps p.tables e below (T29.setTop (mkF m 126 #[.val (.ref (n0 + ob0)), .val (.ref (n0 + ob1)), .val (.long j2), .second, .val (.int i4)] [(.int (1 : Int32)), (.int i4), (.ref (n0 + ob1)), (.int x30), (.int i4), (.ref (n0 + x26))])) _
        refine XS.isub X29.here hx rfl (hb hby d3_126) rfl ?_
        show Steps p.tables e below (T29.setTop (mkF m 127 #[.val (.ref (n0 + ob0)), .val (.ref (n0 + ob1)), .val (.long j2), .second, .val (.int i4)] [(.int (i4 - (1 : Int32))), (.ref (n0 + ob1)), (.int x30), (.int i4), (.ref (n0 + x26))])) _
        refine ldW X29 hx hZ e29 O0 hx31 rfl (g := (mkF m 127 #[.val (.ref (n0 + ob0)), .val (.ref (n0 + ob1)), .val (.long j2), .second, .val (.int i4)] [(.int (i4 - (1 : Int32))), (.ref (n0 + ob1)), (.int x30), (.int i4), (.ref (n0 + x26))])) rfl rfl (hb hby d3_127) _ ?_
        show Steps p.tables e below (T29.setTop (mkF m 128 #[.val (.ref (n0 + ob0)), .val (.ref (n0 + ob1)), .val (.long j2), .second, .val (.int i4)] [(.int x31), (.int x30), (.int i4), (.ref (n0 + x26))])) _
        refine XS.aloadN X29.here hx rfl (hb hby d3_128) rfl rfl ?_
        show Steps p.tables e below (T29.setTop (mkF m 129 #[.val (.ref (n0 + ob0)), .val (.ref (n0 + ob1)), .val (.long j2), .second, .val (.int i4)] [(.ref (n0 + ob0)), (.int x31), (.int x30), (.int i4), (.ref (n0 + x26))])) _
        refine st33 _ ?_
        show Steps p.tables e below (T33.setTop (mkF m 132 #[.val (.ref (n0 + ob0)), .val (.ref (n0 + ob1)), .val (.long j2), .second, .val (.int i4)] [(.ref (n0 + x32)), (.int x31), (.int x30), (.int i4), (.ref (n0 + x26))])) _
        refine XS.aloadN X33.here hx rfl (hb hby d3_132) rfl rfl ?_
        show Steps p.tables e below (T33.setTop (mkF m 133 #[.val (.ref (n0 + ob0)), .val (.ref (n0 + ob1)), .val (.long j2), .second, .val (.int i4)] [(.ref (n0 + ob1)), (.ref (n0 + x32)), (.int x31), (.int x30), (.int i4), (.ref (n0 + x26))])) _
        refine lenW' X33 hx hZ e33 O0 hx34 (ty := .int) rfl (g := (mkF m 133 #[.val (.ref (n0 + ob0)), .val (.ref (n0 + ob1)), .val (.long j2), .second, .val (.int i4)] [(.ref (n0 + ob1)), (.ref (n0 + x32)), (.int x31), (.int x30), (.int i4), (.ref (n0 + x26))])) rfl rfl (hb hby d3_133) _ ?_
        show Steps p.tables e below (T33.setTop (mkF m 134 #[.val (.ref (n0 + ob0)), .val (.ref (n0 + ob1)), .val (.long j2), .second, .val (.int i4)] [(.int x34), (.ref (n0 + x32)), (.int x31), (.int x30), (.int i4), (.ref (n0 + x26))])) _
        refine ldW X33 hx hZ e33 O0 hx35 rfl (g := (mkF m 134 #[.val (.ref (n0 + ob0)), .val (.ref (n0 + ob1)), .val (.long j2), .second, .val (.int i4)] [(.int x34), (.ref (n0 + x32)), (.int x31), (.int x30), (.int i4), (.ref (n0 + x26))])) rfl rfl (hb hby d3_134) _ ?_
        show Steps p.tables e below (T33.setTop (mkF m 135 #[.val (.ref (n0 + ob0)), .val (.ref (n0 + ob1)), .val (.long j2), .second, .val (.int i4)] [(.int x35), (.int x31), (.int x30), (.int i4), (.ref (n0 + x26))])) _
        refine XS.aloadN X33.here hx rfl (hb hby d3_135) rfl rfl ?_
        show Steps p.tables e below (T33.setTop (mkF m 136 #[.val (.ref (n0 + ob0)), .val (.ref (n0 + ob1)), .val (.long j2), .second, .val (.int i4)] [(.ref (n0 + ob0)), (.int x35), (.int x31), (.int x30), (.int i4), (.ref (n0 + x26))])) _
        refine st37 _ ?_
        show Steps p.tables e below (T37.setTop (mkF m 139 #[.val (.ref (n0 + ob0)), .val (.ref (n0 + ob1)), .val (.long j2), .second, .val (.int i4)] [(.ref (n0 + x36)), (.int x35), (.int x31), (.int x30), (.int i4), (.ref (n0 + x26))])) _
        refine XS.iload X37.here hx rfl (hb hby d3_139) rfl ?_
        show Steps p.tables e below (T37.setTop (mkF m 141 #[.val (.ref (n0 + ob0)), .val (.ref (n0 + ob1)), .val (.long j2), .second, .val (.int i4)] [(.int i4), (.ref (n0 + x36)), (.int x35), (.int x31), (.int x30), (.int i4), (.ref (n0 + x26))])) _
        refine ldW X37 hx hZ e37 O0 hx38 rfl (g := (mkF m 141 #[.val (.ref (n0 + ob0)), .val (.ref (n0 + ob1)), .val (.long j2), .second, .val (.int i4)] [(.int i4), (.ref (n0 + x36)), (.int x35), (.int x31), (.int x30), (.int i4), (.ref (n0 + x26))])) rfl rfl (hb hby d3_141) _ ?_
        show Steps p.tables e below (T37.setTop (mkF m 142 #[.val (.ref (n0 + ob0)), .val (.ref (n0 + ob1)), .val (.long j2), .second, .val (.int i4)] [(.int x38), (.int x35), (.int x31), (.int x30), (.int i4), (.ref (n0 + x26))])) _
        refine XS.isub X37.here hx rfl (hb hby d3_142) rfl ?_
        show Steps p.tables e below (T37.setTop (mkF m 143 #[.val (.ref (n0 + ob0)), .val (.ref (n0 + ob1)), .val (.long j2), .second, .val (.int i4)] [(.int (x35 - x38)), (.int x31), (.int x30), (.int i4), (.ref (n0 + x26))])) _
        refine XS.imul X37.here hx rfl (hb hby d3_143) rfl ?_
        show Steps p.tables e below (T37.setTop (mkF m 144 #[.val (.ref (n0 + ob0)), .val (.ref (n0 + ob1)), .val (.long j2), .second, .val (.int i4)] [(.int (x31 * (x35 - x38))), (.int x30), (.int i4), (.ref (n0 + x26))])) _
        refine XS.iadd X37.here hx rfl (hb hby d3_144) rfl ?_
        show Steps p.tables e below (T37.setTop (mkF m 145 #[.val (.ref (n0 + ob0)), .val (.ref (n0 + ob1)), .val (.long j2), .second, .val (.int i4)] [(.int (x30 + (x31 * (x35 - x38)))), (.int i4), (.ref (n0 + x26))])) _
        refine st39 _ ?_
        show Steps p.tables e below (T39.setTop (mkF m 146 #[.val (.ref (n0 + ob0)), .val (.ref (n0 + ob1)), .val (.long j2), .second, .val (.int i4)] [])) _
        refine XS.iinc X39.here hx rfl (hb hby d3_146) rfl (l' := #[.val (.ref (n0 + ob0)), .val (.ref (n0 + ob1)), .val (.long j2), .second, .val (.int (i4 + (1 : Int32)))]) rfl ?_
        show Steps p.tables e below (T39.setTop (mkF m 149 #[.val (.ref (n0 + ob0)), .val (.ref (n0 + ob1)), .val (.long j2), .second, .val (.int (i4 + (1 : Int32)))] [])) _
        refine XS.goto X39.here hx rfl (pc0 := 149) (pc' := 100) rfl (hb hby d3_149) (by decide) (by decide) ?_
        exact k
      exact ih X39 e39 O39 N39 (by omega) (by omega) hf
    · rw [if_neg hc25] at hf
      obtain ⟨D40, hq40, hf⟩ := own_bind hf
      obtain ⟨T40, h40, L40, X40, e40, O40, N40, st40⟩ := putW X0 hx hZ hown (hw _ (List.mem_of_getElem? (i := 50) rfl)) (lay1 hw) e0 O0 N0 hq40 rfl rfl (Or.inr ⟨(hw _ (List.mem_of_getElem? (i := 51) rfl)), rfl, hnm⟩) (hw _ (List.mem_of_getElem? (i := 9) rfl)) (ty := .int) (by decide) rfl rfl (g := (mkF m 155 #[.val (.ref (n0 + ob0)), .val (.ref (n0 + ob1)), .val (.long j2), .second, .val (.int i4)] [(.int (j2.toInt32)), (.ref (n0 + ob0))])) rfl rfl (hb hby d3_155)
      refine Gl.on (B := T40.setTop (mkF m 158 #[.val (.ref (n0 + ob0)), .val (.ref (n0 + ob1)), .val (.long j2), .second, .val (.int i4)] [])) (fun t k => ?_) ?_
      · show Steps p.tables e below (T0.setTop (mkF m 104 #[.val (.ref (n0 + ob0)), .val (.ref (n0 + ob1)), .val (.long j2), .second, .val (.int i4)] [(.int x24), (.int i4)])) _
        refine XS.icmpYes X0.here hx rfl (pc0 := 104) (pc' := 152) rfl (hb hby d3_104) rfl (flt hc25).2.1 (by decide) (by decide) ?_
        show Steps p.tables e below (T0.setTop (mkF m 152 #[.val (.ref (n0 + ob0)), .val (.ref (n0 + ob1)), .val (.long j2), .second, .val (.int i4)] [])) _
        refine XS.aloadN X0.here hx rfl (hb hby d3_152) rfl rfl ?_
        show Steps p.tables e below (T0.setTop (mkF m 153 #[.val (.ref (n0 + ob0)), .val (.ref (n0 + ob1)), .val (.long j2), .second, .val (.int i4)] [(.ref (n0 + ob0))])) _
        refine XS.lloadN X0.here hx rfl (hb hby d3_153) rfl ?_
        show Steps p.tables e below (T0.setTop (mkF m 154 #[.val (.ref (n0 + ob0)), .val (.ref (n0 + ob1)), .val (.long j2), .second, .val (.int i4)] [(.long j2), (.ref (n0 + ob0))])) _
        refine XS.l2i X0.here hx rfl (hb hby d3_154) rfl ?_
        show Steps p.tables e below (T0.setTop (mkF m 155 #[.val (.ref (n0 + ob0)), .val (.ref (n0 + ob1)), .val (.long j2), .second, .val (.int i4)] [(.int (j2.toInt32)), (.ref (n0 + ob0))])) _
        refine st40 _ ?_
        exact k
      obtain rfl := own_inj1 hf
      exact Gl.outV X40 hx hlk hret (hb hby d3_158) ⟨rfl, N40, by rw [e40]; exact O40⟩ (by show _ ≤ 3; omega) (by show _ ≤ 24; omega)
def b3_55 : Nat → Hp → Nat → Nat → Int64 → Int32 → Option (Hp)
  | 0, _, _, _, _, _ => none
  | fu + 1, D, ob0, ob1, j2, i4 =>
  (lA D ob1 0).bind fun x12 =>
  if i4 < x12 then ((gR D ob0 1 1).bind fun x14 =>
  (gR D ob0 1 1).bind fun x16 =>
  (rI D x16 0 i4).bind fun x18 =>
  (rI D ob1 0 i4).bind fun x19 =>
  (wV D x14 0 (i4 + (1 : Int32)) (.int (x18 + x19))).bind fun D20 =>
  b3_55 fu D20 ob0 ob1 j2 (i4 + (1 : Int32))) else ((lA D ob1 0).bind fun x21 =>
  own_let (D.length) fun a22 => (nA D 0 x21 8 (.int (0 : Int32))).bind fun D22 =>
  (pV D22 ob0 1 2 (.ref a22)).bind fun D23 =>
  b3_100 12 D23 ob0 ob1 j2 (1 : Int32))
set_option maxRecDepth 65536 in
set_option maxHeartbeats 40000000 in
theorem bt3_55 {p : Program} {l : Launch} {e : Env} {s : State} {m : MethodId} {args : Array Value} {below : List Frame} {meth : Method} {c : Code} {Z : State} {a0 : Array Value} {n0 : Nat} {D' : Hp} (hw : ∀ d ∈ tables_1, d.before a0 Z = true) (hC : Cx p s m meth c Z prog_16_method_1_code 5 none "com/example/pathweave/pathweave/core/PairIndex" "<init>") (fu : Nat) : ∀ {T0 : State} {locs : List Loc} {cells slots : Nat} {h0 : Heap} {D : Hp} {ob0 : Nat} {ob1 : Nat} {j2 : Int64} {i4 : Int32}, (Stand p l e ({ frames := 4, cells := 3, slots := 24, locals := 71 } : Room) s m args below meth c T0 locs cells slots) → (T0.heap = h0) → (Ow Kt1 Z h0 n0 D) → (Fr n0 locs) → (cells ≤ 2) → (slots ≤ 16) → (b3_55 fu D ob0 ob1 j2 i4 = some D') → Gl p e below s 3 24 (Qw Kt1 Z n0 none D') (T0.setTop (mkF m 55 #[.val (.ref (n0 + ob0)), .val (.ref (n0 + ob1)), .val (.long j2), .second, .val (.int i4)] [])) := by
  obtain ⟨hx, hZ, hby, hml, hown, hnm, hret, hlk⟩ := id hC
  have hml : c.maxLocals = 5 := hml
  induction fu with
  | zero => intro T0 locs cells slots h0 D ob0 ob1 j2 i4 X0 e0 O0 N0 hcc hss hf; cases hf
  | succ fu ih =>
    intro T0 locs cells slots h0 D ob0 ob1 j2 i4 X0 e0 O0 N0 hcc hss hf
    rw [b3_55] at hf
    obtain ⟨x12, hx12, hf⟩ := own_bind hf
    refine Gl.on (B := T0.setTop (mkF m 59 #[.val (.ref (n0 + ob0)), .val (.ref (n0 + ob1)), .val (.long j2), .second, .val (.int i4)] [(.int x12), (.int i4)])) (fun t k => ?_) ?_
    · show Steps p.tables e below (T0.setTop (mkF m 55 #[.val (.ref (n0 + ob0)), .val (.ref (n0 + ob1)), .val (.long j2), .second, .val (.int i4)] [])) _
      refine XS.iload X0.here hx rfl (hb hby d3_55) rfl ?_
      show Steps p.tables e below (T0.setTop (mkF m 57 #[.val (.ref (n0 + ob0)), .val (.ref (n0 + ob1)), .val (.long j2), .second, .val (.int i4)] [(.int i4)])) _
      refine XS.aloadN X0.here hx rfl (hb hby d3_57) rfl rfl ?_
      show Steps p.tables e below (T0.setTop (mkF m 58 #[.val (.ref (n0 + ob0)), .val (.ref (n0 + ob1)), .val (.long j2), .second, .val (.int i4)] [(.ref (n0 + ob1)), (.int i4)])) _
      refine lenW' X0 hx hZ e0 O0 hx12 (ty := .int) rfl (g := (mkF m 58 #[.val (.ref (n0 + ob0)), .val (.ref (n0 + ob1)), .val (.long j2), .second, .val (.int i4)] [(.ref (n0 + ob1)), (.int i4)])) rfl rfl (hb hby d3_58) _ ?_
      exact k
    by_cases hc13 : i4 < x12
    · rw [if_pos hc13] at hf
      obtain ⟨x14, hx14, hf⟩ := own_bind hf
      obtain ⟨T15, X15, e15, st15⟩ := getF X0 hx hZ hown (host := "") (Or.inl (hw _ (List.mem_of_getElem? (i := 46) rfl))) Via.refl e0 (O0.fld (gR_e hx14) rfl rfl) (g := (mkF m 63 #[.val (.ref (n0 + ob0)), .val (.ref (n0 + ob1)), .val (.long j2), .second, .val (.int i4)] [(.ref (n0 + ob0))])) rfl rfl (hb hby d3_63)
      obtain ⟨x16, hx16, hf⟩ := own_bind hf
      obtain ⟨T17, X17, e17, st17⟩ := getF X15 hx hZ hown (host := "") (Or.inl (hw _ (List.mem_of_getElem? (i := 46) rfl))) Via.refl e15 (O0.fld (gR_e hx16) rfl rfl) (g := (mkF m 71 #[.val (.ref (n0 + ob0)), .val (.ref (n0 + ob1)), .val (.long j2), .second, .val (.int i4)] [(.ref (n0 + ob0)), (.int (i4 + (1 : Int32))), (.ref (n0 + x14))])) rfl rfl (hb hby d3_71)
      obtain ⟨x18, hx18, hf⟩ := own_bind hf
      obtain ⟨x19, hx19, hf⟩ := own_bind hf
      obtain ⟨D20, hq20, hf⟩ := own_bind hf
      obtain ⟨T20, h20, L20, X20, e20, O20, N20, st20⟩ := stIW X17 hx hZ e17 O0 N0 hq20 rfl (g := (mkF m 82 #[.val (.ref (n0 + ob0)), .val (.ref (n0 + ob1)), .val (.long j2), .second, .val (.int i4)] [(.int (x18 + x19)), (.int (i4 + (1 : Int32))), (.ref (n0 + x14))])) rfl rfl (hb hby d3_82)
      refine Gl.on (B := T20.setTop (mkF m 55 #[.val (.ref (n0 + ob0)), .val (.ref (n0 + ob1)), .val (.long j2), .second, .val (.int (i4 + (1 : Int32)))] [])) (fun t k => ?_) ?_
      · show Steps p.tables e below (T0.setTop (mkF m 59 #[.val (.ref (n0 + ob0)), .val (.ref (n0 + ob1)), .val (.long j2), .second, .val (.int i4)] [(.int x12), (.int i4)])) _
        refine XS.icmpNo X0.here hx rfl (hb hby d3_59) rfl (tlt hc13).2.1 ?_
        show Steps p.tables e below (T0.setTop (mkF m 62 #[.val (.ref (n0 + ob0)), .val (.ref (n0 + ob1)), .val (.long j2), .second, .val (.int i4)] [])) _
        refine XS.aloadN X0.here hx rfl (hb hby d3_62) rfl rfl ?_
        show Steps p.tables e below (T0.setTop (mkF m 63 #[.val (.ref (n0 + ob0)), .val (.ref (n0 + ob1)), .val (.long j2), .second, .val (.int i4)] [(.ref (n0 + ob0))])) _
        refine st15 _ ?_
        show Steps p.tables e below (T15.setTop (mkF m 66 #[.val (.ref (n0 + ob0)), .val (.ref (n0 + ob1)), .val (.long j2), .second, .val (.int i4)] [(.ref (n0 + x14))])) _
        refine XS.iload X15.here hx rfl (hb hby d3_66) rfl ?_
        show Steps p.tables e below (T15.setTop (mkF m 68 #[.val (.ref (n0 + ob0)), .val (.ref (n0 + ob1)), .val (.long j2), .second, .val (.int i4)] [(.int i4), (.ref (n0 + x14))])) _
        refine XS.iconst X15.here hx rfl (hb hby d3_68) ?_
        show Steps p.tables e below (T15.setTop (mkF m 69 #[.val (.ref (n0 + ob0)), .val (.ref (n0 + ob1)), .val (.long j2), .second, .val (.int i4)] [(.int (1 : Int32)), (.int i4), (.ref (n0 + x14))])) _
        refine XS.iadd X15.here hx rfl (hb hby d3_69) rfl ?_
        show Steps p.tables e below (T15.setTop (mkF m 70 #[.val (.ref (n0 + ob0)), .val (.ref (n0 + ob1)), .val (.long j2), .second, .val (.int i4)] [(.int (i4 + (1 : Int32))), (.ref (n0 + x14))])) _
        refine XS.aloadN X15.here hx rfl (hb hby d3_70) rfl rfl ?_
        show Steps p.tables e below (T15.setTop (mkF m 71 #[.val (.ref (n0 + ob0)), .val (.ref (n0 + ob1)), .val (.long j2), .second, .val (.int i4)] [(.ref (n0 + ob0)), (.int (i4 + (1 : Int32))), (.ref (n0 + x14))])) _
        refine st17 _ ?_
        show Steps p.tables e below (T17.setTop (mkF m 74 #[.val (.ref (n0 + ob0)), .val (.ref (n0 + ob1)), .val (.long j2), .second, .val (.int i4)] [(.ref (n0 + x16)), (.int (i4 + (1 : Int32))), (.ref (n0 + x14))])) _
        refine XS.iload X17.here hx rfl (hb hby d3_74) rfl ?_
        show Steps p.tables e below (T17.setTop (mkF m 76 #[.val (.ref (n0 + ob0)), .val (.ref (n0 + ob1)), .val (.long j2), .second, .val (.int i4)] [(.int i4), (.ref (n0 + x16)), (.int (i4 + (1 : Int32))), (.ref (n0 + x14))])) _
        refine ldW X17 hx hZ e17 O0 hx18 rfl (g := (mkF m 76 #[.val (.ref (n0 + ob0)), .val (.ref (n0 + ob1)), .val (.long j2), .second, .val (.int i4)] [(.int i4), (.ref (n0 + x16)), (.int (i4 + (1 : Int32))), (.ref (n0 + x14))])) rfl rfl (hb hby d3_76) _ ?_
        show Steps p.tables e below (T17.setTop (mkF m 77 #[.val (.ref (n0 + ob0)), .val (.ref (n0 + ob1)), .val (.long j2), .second, .val (.int i4)] [(.int x18), (.int (i4 + (1 : Int32))), (.ref (n0 + x14))])) _
        refine XS.aloadN X17.here hx rfl (hb hby d3_77) rfl rfl ?_
        show Steps p.tables e below (T17.setTop (mkF m 78 #[.val (.ref (n0 + ob0)), .val (.ref (n0 + ob1)), .val (.long j2), .second, .val (.int i4)] [(.ref (n0 + ob1)), (.int x18), (.int (i4 + (1 : Int32))), (.ref (n0 + x14))])) _
        refine XS.iload X17.here hx rfl (hb hby d3_78) rfl ?_
        show Steps p.tables e below (T17.setTop (mkF m 80 #[.val (.ref (n0 + ob0)), .val (.ref (n0 + ob1)), .val (.long j2), .second, .val (.int i4)] [(.int i4), (.ref (n0 + ob1)), (.int x18), (.int (i4 + (1 : Int32))), (.ref (n0 + x14))])) _
        refine ldW X17 hx hZ e17 O0 hx19 rfl (g := (mkF m 80 #[.val (.ref (n0 + ob0)), .val (.ref (n0 + ob1)), .val (.long j2), .second, .val (.int i4)] [(.int i4), (.ref (n0 + ob1)), (.int x18), (.int (i4 + (1 : Int32))), (.ref (n0 + x14))])) rfl rfl (hb hby d3_80) _ ?_
        show Steps p.tables e below (T17.setTop (mkF m 81 #[.val (.ref (n0 + ob0)), .val (.ref (n0 + ob1)), .val (.long j2), .second, .val (.int i4)] [(.int x19), (.int x18), (.int (i4 + (1 : Int32))), (.ref (n0 + x14))])) _
        refine XS.iadd X17.here hx rfl (hb hby d3_81) rfl ?_
        show Steps p.tables e below (T17.setTop (mkF m 82 #[.val (.ref (n0 + ob0)), .val (.ref (n0 + ob1)), .val (.long j2), .second, .val (.int i4)] [(.int (x18 + x19)), (.int (i4 + (1 : Int32))), (.ref (n0 + x14))])) _
        refine st20 _ ?_
        show Steps p.tables e below (T20.setTop (mkF m 83 #[.val (.ref (n0 + ob0)), .val (.ref (n0 + ob1)), .val (.long j2), .second, .val (.int i4)] [])) _
        refine XS.iinc X20.here hx rfl (hb hby d3_83) rfl (l' := #[.val (.ref (n0 + ob0)), .val (.ref (n0 + ob1)), .val (.long j2), .second, .val (.int (i4 + (1 : Int32)))]) rfl ?_
        show Steps p.tables e below (T20.setTop (mkF m 86 #[.val (.ref (n0 + ob0)), .val (.ref (n0 + ob1)), .val (.long j2), .second, .val (.int (i4 + (1 : Int32)))] [])) _
        refine XS.goto X20.here hx rfl (pc0 := 86) (pc' := 55) rfl (hb hby d3_86) (by decide) (by decide) ?_
        exact k
      exact ih X20 e20 O20 N20 (by omega) (by omega) hf
    · rw [if_neg hc13] at hf
      obtain ⟨x21, hx21, hf⟩ := own_bind hf
      obtain ⟨a22, ha22, hf⟩ := own_letE hf
      obtain ⟨D22, hD22, hf⟩ := own_bind hf
      obtain ⟨T22, h22, X22, e22, O22, st22⟩ := newAW X0 hx hZ (aty := .int) (hw _ (List.mem_of_getElem? (i := 0) rfl)) e0 O0 rfl rfl hD22 (g := (mkF m 92 #[.val (.ref (n0 + ob0)), .val (.ref (n0 + ob1)), .val (.long j2), .second, .val (.int i4)] [(.int x21), (.ref (n0 + ob0))])) rfl (hb hby d3_92) rfl (by decide) (by show _ + 1 ≤ 3; omega) (by show _ + 8 ≤ 24; omega)
      rw [ha22] at st22
      obtain ⟨D23, hq23, hf⟩ := own_bind hf
      obtain ⟨T23, h23, L23, X23, e23, O23, N23, st23⟩ := putW X22 hx hZ hown (hw _ (List.mem_of_getElem? (i := 48) rfl)) (lay1 hw) e22 O22 N0 hq23 rfl rfl (Or.inr ⟨(hw _ (List.mem_of_getElem? (i := 49) rfl)), rfl, hnm⟩) (hw _ (List.mem_of_getElem? (i := 9) rfl)) (ty := (.array .int)) (by decide) rfl rfl (g := (mkF m 94 #[.val (.ref (n0 + ob0)), .val (.ref (n0 + ob1)), .val (.long j2), .second, .val (.int i4)] [(.ref (n0 + a22)), (.ref (n0 + ob0))])) rfl rfl (hb hby d3_94)
      refine Gl.on (B := T23.setTop (mkF m 100 #[.val (.ref (n0 + ob0)), .val (.ref (n0 + ob1)), .val (.long j2), .second, .val (.int (1 : Int32))] [])) (fun t k => ?_) ?_
      · show Steps p.tables e below (T0.setTop (mkF m 59 #[.val (.ref (n0 + ob0)), .val (.ref (n0 + ob1)), .val (.long j2), .second, .val (.int i4)] [(.int x12), (.int i4)])) _
        refine XS.icmpYes X0.here hx rfl (pc0 := 59) (pc' := 89) rfl (hb hby d3_59) rfl (flt hc13).2.1 (by decide) (by decide) ?_
        show Steps p.tables e below (T0.setTop (mkF m 89 #[.val (.ref (n0 + ob0)), .val (.ref (n0 + ob1)), .val (.long j2), .second, .val (.int i4)] [])) _
        refine XS.aloadN X0.here hx rfl (hb hby d3_89) rfl rfl ?_
        show Steps p.tables e below (T0.setTop (mkF m 90 #[.val (.ref (n0 + ob0)), .val (.ref (n0 + ob1)), .val (.long j2), .second, .val (.int i4)] [(.ref (n0 + ob0))])) _
        refine XS.aloadN X0.here hx rfl (hb hby d3_90) rfl rfl ?_
        show Steps p.tables e below (T0.setTop (mkF m 91 #[.val (.ref (n0 + ob0)), .val (.ref (n0 + ob1)), .val (.long j2), .second, .val (.int i4)] [(.ref (n0 + ob1)), (.ref (n0 + ob0))])) _
        refine lenW' X0 hx hZ e0 O0 hx21 (ty := .int) rfl (g := (mkF m 91 #[.val (.ref (n0 + ob0)), .val (.ref (n0 + ob1)), .val (.long j2), .second, .val (.int i4)] [(.ref (n0 + ob1)), (.ref (n0 + ob0))])) rfl rfl (hb hby d3_91) _ ?_
        show Steps p.tables e below (T0.setTop (mkF m 92 #[.val (.ref (n0 + ob0)), .val (.ref (n0 + ob1)), .val (.long j2), .second, .val (.int i4)] [(.int x21), (.ref (n0 + ob0))])) _
        refine st22 _ ?_
        show Steps p.tables e below (T22.setTop (mkF m 94 #[.val (.ref (n0 + ob0)), .val (.ref (n0 + ob1)), .val (.long j2), .second, .val (.int i4)] [(.ref (n0 + a22)), (.ref (n0 + ob0))])) _
        refine st23 _ ?_
        show Steps p.tables e below (T23.setTop (mkF m 97 #[.val (.ref (n0 + ob0)), .val (.ref (n0 + ob1)), .val (.long j2), .second, .val (.int i4)] [])) _
        refine XS.iconst X23.here hx rfl (hb hby d3_97) ?_
        show Steps p.tables e below (T23.setTop (mkF m 98 #[.val (.ref (n0 + ob0)), .val (.ref (n0 + ob1)), .val (.long j2), .second, .val (.int i4)] [(.int (1 : Int32))])) _
        refine XS.istore X23.here hx rfl (hb hby d3_98) rfl (l' := #[.val (.ref (n0 + ob0)), .val (.ref (n0 + ob1)), .val (.long j2), .second, .val (.int (1 : Int32))]) rfl ?_
        exact k
      exact bt3_100 hw hC 12 X23 e23 O23 N23 (by omega) (by omega) hf
def f3 (D : Hp) (ob0 : Nat) (ob1 : Nat) : Option (Hp) :=
  (f5 D ob1).bind fun q2 => own_let q2.1 fun x3 => own_let q2.2 fun D2 =>
  if (10000000 : Int64) < x3 then (none) else (own_let (D2.length) fun a5 => (cA' D2 ob1 0 8).bind fun D5 =>
  (ck D5 a5 0).bind fun u7 => (pV D5 ob0 1 0 (.ref a5)).bind fun D8 =>
  (lA D8 ob1 0).bind fun x9 =>
  own_let (D8.length) fun a10 => (nA D8 0 (x9 + (1 : Int32)) 8 (.int (0 : Int32))).bind fun D10 =>
  (pV D10 ob0 1 1 (.ref a10)).bind fun D11 =>
  b3_55 12 D11 ob0 ob1 x3 (0 : Int32))
theorem ef_3 (m : MethodId) (n0 : Nat) (ob0 : Nat) (ob1 : Nat) : entryFrame m #[(.ref (n0 + ob0)), (.ref (n0 + ob1))] 5 = mkF m 0 #[.val (.ref (n0 + ob0)), .val (.ref (n0 + ob1)), .unset, .unset, .unset] [] := by first | (simp [entryFrame, mkF, argsToLocals, Value.category]; done) | rfl
set_option maxRecDepth 65536 in
set_option maxHeartbeats 40000000 in
theorem ct3 {l : Launch} {Z : State} {a0 : Array Value} (hw : ∀ d ∈ tables_1, d.before a0 Z = true) {n0 : Nat} {D D' : Hp} {ob0 : Nat} {ob1 : Nat} (hf : f3 D ob0 ob1 = some D') :
    Ct Kt1 l Z (⟨"com/example/pathweave/pathweave/core/PairIndex", "<init>", "([I)V"⟩ : MethodName) (.code (⟨"com/example/pathweave/pathweave/core/PairIndex", "<init>", "([I)V"⟩ : MethodName) prog_16_method_1_code 5 none) ({ frames := 4, cells := 3, slots := 24, locals := 71 } : Room) n0 D #[(.ref (n0 + ob0)), (.ref (n0 + ob1))] none D' := by
  refine Ct.of (plainFor_of_name pn_3) ?_
  intro p e s m below meth c T0 h0 hC X0 e0 O0
  obtain ⟨hx, hZ, hby, hml, hown, hnm, hret, hlk⟩ := id hC
  have hml : c.maxLocals = 5 := hml
  have hown : s.vm.findClass "com/example/pathweave/pathweave/core/PairIndex" = some m.cls := hown
  have hnm : meth.name = "<init>" := hnm
  have N0 := Fr.nil n0
  refine Gl.on (fun t k => castTop (ef_3 m n0 ob0 ob1) k) ?_
  rw [f3] at hf
  obtain ⟨T1, X1, e1, st1⟩ := initO X0 hx hZ hown (hw _ (List.mem_of_getElem? (i := 14) rfl)) (hw _ (List.mem_of_getElem? (i := 15) rfl)) (hw _ (List.mem_of_getElem? (i := 16) rfl)) e0 (g := (mkF m 1 #[.val (.ref (n0 + ob0)), .val (.ref (n0 + ob1)), .unset, .unset, .unset] [(.ref (n0 + ob0))])) rfl (by rw [hml]; rfl) rfl (hb hby d3_1) (by decide) (W := 0) (by show 2 * 0 + _ ≤ _; exact Nat.le_of_eq rfl) (by decide)
  obtain ⟨⟨x3, D2⟩, hq2, hf⟩ := own_bind hf
  obtain ⟨_, rfl, hf⟩ := own_letE hf
  obtain ⟨_, rfl, hf⟩ := own_letE hf
  obtain ⟨T2, h2, L2, X2, e2, O2, N2, st2⟩ := callSHW X1 hx hZ (y := (⟨"com/example/pathweave/pathweave/core/Pairwise", "pairCount", "([I)J"⟩ : MethodName)) hown (hw _ (List.mem_of_getElem? (i := 17) rfl)) (hw _ (List.mem_of_getElem? (i := 18) rfl)) (hw _ (List.mem_of_getElem? (i := 19) rfl)) (hw _ (List.mem_of_getElem? (i := 20) rfl)) (by decide) e1 O0 N0 (as' := [(.ref (n0 + ob1))]) (ct5 hw hq2) (W := 0) (kc := 0) (ks := 0) rfl rfl (by decide) (by decide) (g := (mkF m 5 #[.val (.ref (n0 + ob0)), .val (.ref (n0 + ob1)), .unset, .unset, .unset] [(.ref (n0 + ob1))])) rfl (by rw [hml]; rfl) (rest := []) (lenOf pd_3 rfl) rfl (by show 2 * 0 + _ ≤ _; exact Nat.le_of_eq rfl) (hb hby d3_5) (by show _ + 0 ≤ 3; omega) (by show _ + 0 ≤ 24; omega)
  refine Gl.on (B := T2.setTop (mkF m 14 #[.val (.ref (n0 + ob0)), .val (.ref (n0 + ob1)), .val (.long x3), .second, .unset] [(.int (lcmpW x3 (10000000 : Int64)))])) (fun t k => ?_) ?_
  · show Steps p.tables e below (T0.setTop (mkF m 0 #[.val (.ref (n0 + ob0)), .val (.ref (n0 + ob1)), .unset, .unset, .unset] [])) _
    refine XS.aloadN X0.here hx rfl (hb hby d3_0) rfl rfl ?_
    show Steps p.tables e below (T0.setTop (mkF m 1 #[.val (.ref (n0 + ob0)), .val (.ref (n0 + ob1)), .unset, .unset, .unset] [(.ref (n0 + ob0))])) _
    refine st1 _ ?_
    show Steps p.tables e below (T1.setTop (mkF m 4 #[.val (.ref (n0 + ob0)), .val (.ref (n0 + ob1)), .unset, .unset, .unset] [])) _
    refine XS.aloadN X1.here hx rfl (hb hby d3_4) rfl rfl ?_
    show Steps p.tables e below (T1.setTop (mkF m 5 #[.val (.ref (n0 + ob0)), .val (.ref (n0 + ob1)), .unset, .unset, .unset] [(.ref (n0 + ob1))])) _
    refine st2 _ ?_
    show Steps p.tables e below (T2.setTop (mkF m 8 #[.val (.ref (n0 + ob0)), .val (.ref (n0 + ob1)), .unset, .unset, .unset] [(.long x3)])) _
    refine XS.lstoreN X2.here hx rfl (hb hby d3_8) rfl (l' := #[.val (.ref (n0 + ob0)), .val (.ref (n0 + ob1)), .val (.long x3), .second, .unset]) rfl ?_
    show Steps p.tables e below (T2.setTop (mkF m 9 #[.val (.ref (n0 + ob0)), .val (.ref (n0 + ob1)), .val (.long x3), .second, .unset] [])) _
    refine XS.lloadN X2.here hx rfl (hb hby d3_9) rfl ?_
    show Steps p.tables e below (T2.setTop (mkF m 10 #[.val (.ref (n0 + ob0)), .val (.ref (n0 + ob1)), .val (.long x3), .second, .unset] [(.long x3)])) _
    refine X2.ldc2Long hx hown (mvT hZ (hw _ (List.mem_of_getElem? (i := 34) rfl))) (g := (mkF m 10 #[.val (.ref (n0 + ob0)), .val (.ref (n0 + ob1)), .val (.long x3), .second, .unset] [(.long x3)])) rfl (hb hby d3_10) _ ?_
    show Steps p.tables e below (T2.setTop (mkF m 13 #[.val (.ref (n0 + ob0)), .val (.ref (n0 + ob1)), .val (.long x3), .second, .unset] [(.long (10000000 : Int64)), (.long x3)])) _
    refine XS.lcmp X2.here hx rfl (hb hby d3_13) rfl ?_
    exact k
  by_cases hc4 : (10000000 : Int64) < x3
  · rw [if_pos hc4] at hf
    cases hf
  · rw [if_neg hc4] at hf
    obtain ⟨a5, ha5, hf⟩ := own_letE hf
    obtain ⟨D5, hD5, hf⟩ := own_bind hf
    obtain ⟨T5, h5, X5, e5, O5, st5⟩ := cloneW X2 hx hZ hown (ty := .int) (by decide) (hw _ (List.mem_of_getElem? (i := 35) rfl)) (hw _ (List.mem_of_getElem? (i := 36) rfl)) (hw _ (List.mem_of_getElem? (i := 40) rfl)) (hw _ (List.mem_of_getElem? (i := 38) rfl)) (hw _ (List.mem_of_getElem? (i := 39) rfl)) (hw _ (List.mem_of_getElem? (i := 41) rfl)) e2 O2 rfl hD5 (g := (mkF m 33 #[.val (.ref (n0 + ob0)), .val (.ref (n0 + ob1)), .val (.long x3), .second, .unset] [(.ref (n0 + ob1)), (.ref (n0 + ob0))])) rfl (by rw [hml]; rfl) rfl (hb hby d3_33) (by decide) (W := 1) (by show 2 * 0 + _ ≤ _; exact Nat.le_of_eq rfl) (by decide) (by show _ + 1 ≤ 3; omega) (by show _ + 8 ≤ 24; omega)
    rw [ha5] at st5
    obtain ⟨u7, hk6, hf⟩ := own_bind hf
    obtain ⟨T6, X6, e6, st6⟩ := castW X5 hx hZ hown (hw _ (List.mem_of_getElem? (i := 42) rfl)) (ty := .int) (by decide) e5 O5 hk6 rfl (g := (mkF m 36 #[.val (.ref (n0 + ob0)), .val (.ref (n0 + ob1)), .val (.long x3), .second, .unset] [(.ref (n0 + a5)), (.ref (n0 + ob0))])) rfl rfl (hb hby d3_36)
    obtain ⟨D8, hq8, hf⟩ := own_bind hf
    obtain ⟨T8, h8, L8, X8, e8, O8, N8, st8⟩ := putW X6 hx hZ hown (hw _ (List.mem_of_getElem? (i := 44) rfl)) (lay1 hw) e6 O5 N2 hq8 rfl rfl (Or.inr ⟨(hw _ (List.mem_of_getElem? (i := 45) rfl)), rfl, hnm⟩) (hw _ (List.mem_of_getElem? (i := 9) rfl)) (ty := (.array .int)) (by decide) rfl rfl (g := (mkF m 39 #[.val (.ref (n0 + ob0)), .val (.ref (n0 + ob1)), .val (.long x3), .second, .unset] [(.ref (n0 + a5)), (.ref (n0 + ob0))])) rfl rfl (hb hby d3_39)
    obtain ⟨x9, hx9, hf⟩ := own_bind hf
    obtain ⟨a10, ha10, hf⟩ := own_letE hf
    obtain ⟨D10, hD10, hf⟩ := own_bind hf
    obtain ⟨T10, h10, X10, e10, O10, st10⟩ := newAW X8 hx hZ (aty := .int) (hw _ (List.mem_of_getElem? (i := 0) rfl)) e8 O8 rfl rfl hD10 (g := (mkF m 47 #[.val (.ref (n0 + ob0)), .val (.ref (n0 + ob1)), .val (.long x3), .second, .unset] [(.int (x9 + (1 : Int32))), (.ref (n0 + ob0))])) rfl (hb hby d3_47) rfl (by decide) (by show _ + 1 ≤ 3; omega) (by show _ + 8 ≤ 24; omega)
    rw [ha10] at st10
    obtain ⟨D11, hq11, hf⟩ := own_bind hf
    obtain ⟨T11, h11, L11, X11, e11, O11, N11, st11⟩ := putW X10 hx hZ hown (hw _ (List.mem_of_getElem? (i := 46) rfl)) (lay1 hw) e10 O10 N8 hq11 rfl rfl (Or.inr ⟨(hw _ (List.mem_of_getElem? (i := 47) rfl)), rfl, hnm⟩) (hw _ (List.mem_of_getElem? (i := 9) rfl)) (ty := (.array .int)) (by decide) rfl rfl (g := (mkF m 49 #[.val (.ref (n0 + ob0)), .val (.ref (n0 + ob1)), .val (.long x3), .second, .unset] [(.ref (n0 + a10)), (.ref (n0 + ob0))])) rfl rfl (hb hby d3_49)
    refine Gl.on (B := T11.setTop (mkF m 55 #[.val (.ref (n0 + ob0)), .val (.ref (n0 + ob1)), .val (.long x3), .second, .val (.int (0 : Int32))] [])) (fun t k => ?_) ?_
    · show Steps p.tables e below (T2.setTop (mkF m 14 #[.val (.ref (n0 + ob0)), .val (.ref (n0 + ob1)), .val (.long x3), .second, .unset] [(.int (lcmpW x3 (10000000 : Int64)))])) _
      refine XS.ifYes X2.here hx rfl (pc0 := 14) (pc' := 31) rfl (hb hby d3_14) rfl ((if0 _ _).trans (flt (mt (lw_gt _ _).mp hc4)).2.2.2) (by decide) (by decide) ?_
      show Steps p.tables e below (T2.setTop (mkF m 31 #[.val (.ref (n0 + ob0)), .val (.ref (n0 + ob1)), .val (.long x3), .second, .unset] [])) _
      refine XS.aloadN X2.here hx rfl (hb hby d3_31) rfl rfl ?_
      show Steps p.tables e below (T2.setTop (mkF m 32 #[.val (.ref (n0 + ob0)), .val (.ref (n0 + ob1)), .val (.long x3), .second, .unset] [(.ref (n0 + ob0))])) _
      refine XS.aloadN X2.here hx rfl (hb hby d3_32) rfl rfl ?_
      show Steps p.tables e below (T2.setTop (mkF m 33 #[.val (.ref (n0 + ob0)), .val (.ref (n0 + ob1)), .val (.long x3), .second, .unset] [(.ref (n0 + ob1)), (.ref (n0 + ob0))])) _
      refine st5 _ ?_
      show Steps p.tables e below (T5.setTop (mkF m 36 #[.val (.ref (n0 + ob0)), .val (.ref (n0 + ob1)), .val (.long x3), .second, .unset] [(.ref (n0 + a5)), (.ref (n0 + ob0))])) _
      refine st6 _ ?_
      show Steps p.tables e below (T6.setTop (mkF m 39 #[.val (.ref (n0 + ob0)), .val (.ref (n0 + ob1)), .val (.long x3), .second, .unset] [(.ref (n0 + a5)), (.ref (n0 + ob0))])) _
      refine st8 _ ?_
      show Steps p.tables e below (T8.setTop (mkF m 42 #[.val (.ref (n0 + ob0)), .val (.ref (n0 + ob1)), .val (.long x3), .second, .unset] [])) _
      refine XS.aloadN X8.here hx rfl (hb hby d3_42) rfl rfl ?_
      show Steps p.tables e below (T8.setTop (mkF m 43 #[.val (.ref (n0 + ob0)), .val (.ref (n0 + ob1)), .val (.long x3), .second, .unset] [(.ref (n0 + ob0))])) _
      refine XS.aloadN X8.here hx rfl (hb hby d3_43) rfl rfl ?_
      show Steps p.tables e below (T8.setTop (mkF m 44 #[.val (.ref (n0 + ob0)), .val (.ref (n0 + ob1)), .val (.long x3), .second, .unset] [(.ref (n0 + ob1)), (.ref (n0 + ob0))])) _
      refine lenW' X8 hx hZ e8 O8 hx9 (ty := .int) rfl (g := (mkF m 44 #[.val (.ref (n0 + ob0)), .val (.ref (n0 + ob1)), .val (.long x3), .second, .unset] [(.ref (n0 + ob1)), (.ref (n0 + ob0))])) rfl rfl (hb hby d3_44) _ ?_
      show Steps p.tables e below (T8.setTop (mkF m 45 #[.val (.ref (n0 + ob0)), .val (.ref (n0 + ob1)), .val (.long x3), .second, .unset] [(.int x9), (.ref (n0 + ob0))])) _
      refine XS.iconst X8.here hx rfl (hb hby d3_45) ?_
      show Steps p.tables e below (T8.setTop (mkF m 46 #[.val (.ref (n0 + ob0)), .val (.ref (n0 + ob1)), .val (.long x3), .second, .unset] [(.int (1 : Int32)), (.int x9), (.ref (n0 + ob0))])) _
      refine XS.iadd X8.here hx rfl (hb hby d3_46) rfl ?_
      show Steps p.tables e below (T8.setTop (mkF m 47 #[.val (.ref (n0 + ob0)), .val (.ref (n0 + ob1)), .val (.long x3), .second, .unset] [(.int (x9 + (1 : Int32))), (.ref (n0 + ob0))])) _
      refine st10 _ ?_
      show Steps p.tables e below (T10.setTop (mkF m 49 #[.val (.ref (n0 + ob0)), .val (.ref (n0 + ob1)), .val (.long x3), .second, .unset] [(.ref (n0 + a10)), (.ref (n0 + ob0))])) _
      refine st11 _ ?_
      show Steps p.tables e below (T11.setTop (mkF m 52 #[.val (.ref (n0 + ob0)), .val (.ref (n0 + ob1)), .val (.long x3), .second, .unset] [])) _
      refine XS.iconst X11.here hx rfl (hb hby d3_52) ?_
      show Steps p.tables e below (T11.setTop (mkF m 53 #[.val (.ref (n0 + ob0)), .val (.ref (n0 + ob1)), .val (.long x3), .second, .unset] [(.int (0 : Int32))])) _
      refine XS.istore X11.here hx rfl (hb hby d3_53) rfl (l' := #[.val (.ref (n0 + ob0)), .val (.ref (n0 + ob1)), .val (.long x3), .second, .val (.int (0 : Int32))]) rfl ?_
      exact k
    exact bt3_55 hw hC 12 X11 e11 O11 N11 (by omega) (by omega) hf
theorem d10_0 : decode prog_16_method_5_code 0 = .ok (.iconst 0, 1) := by decide +kernel
theorem d10_1 : decode prog_16_method_5_code 1 = .ok (.istore_n 1, 1) := by decide +kernel
theorem d10_2 : decode prog_16_method_5_code 2 = .ok (.iconst 1, 1) := by decide +kernel
theorem d10_3 : decode prog_16_method_5_code 3 = .ok (.istore_n 2, 1) := by decide +kernel
theorem d10_4 : decode prog_16_method_5_code 4 = .ok (.aload_n 0, 1) := by decide +kernel
theorem d10_5 : decode prog_16_method_5_code 5 = .ok (.getfield 30, 3) := by decide +kernel
theorem d10_8 : decode prog_16_method_5_code 8 = .ok (.iconst 1, 1) := by decide +kernel
theorem d10_9 : decode prog_16_method_5_code 9 = .ok (.iaload, 1) := by decide +kernel
theorem d10_10 : decode prog_16_method_5_code 10 = .ok (.aload_n 0, 1) := by decide +kernel
theorem d10_11 : decode prog_16_method_5_code 11 = .ok (.getfield 30, 3) := by decide +kernel
theorem d10_14 : decode prog_16_method_5_code 14 = .ok (.iconst 0, 1) := by decide +kernel
theorem d10_15 : decode prog_16_method_5_code 15 = .ok (.iaload, 1) := by decide +kernel
theorem d10_16 : decode prog_16_method_5_code 16 = .ok (.if_icmp .le 7, 3) := by decide +kernel
theorem d10_19 : decode prog_16_method_5_code 19 = .ok (.iconst 1, 1) := by decide +kernel
theorem d10_20 : decode prog_16_method_5_code 20 = .ok (.istore_n 1, 1) := by decide +kernel
theorem d10_21 : decode prog_16_method_5_code 21 = .ok (.iconst 0, 1) := by decide +kernel
theorem d10_22 : decode prog_16_method_5_code 22 = .ok (.istore_n 2, 1) := by decide +kernel
theorem d10_23 : decode prog_16_method_5_code 23 = .ok (.iconst 2, 1) := by decide +kernel
theorem d10_24 : decode prog_16_method_5_code 24 = .ok (.istore_n 3, 1) := by decide +kernel
theorem d10_25 : decode prog_16_method_5_code 25 = .ok (.iload_n 3, 1) := by decide +kernel
theorem d10_26 : decode prog_16_method_5_code 26 = .ok (.aload_n 0, 1) := by decide +kernel
theorem d10_27 : decode prog_16_method_5_code 27 = .ok (.getfield 30, 3) := by decide +kernel
theorem d10_30 : decode prog_16_method_5_code 30 = .ok (.arraylength, 1) := by decide +kernel
theorem d10_31 : decode prog_16_method_5_code 31 = .ok (.if_icmp .ge 48, 3) := by decide +kernel
theorem d10_34 : decode prog_16_method_5_code 34 = .ok (.aload_n 0, 1) := by decide +kernel
theorem d10_35 : decode prog_16_method_5_code 35 = .ok (.getfield 30, 3) := by decide +kernel
theorem d10_38 : decode prog_16_method_5_code 38 = .ok (.iload_n 3, 1) := by decide +kernel
theorem d10_39 : decode prog_16_method_5_code 39 = .ok (.iaload, 1) := by decide +kernel
theorem d10_40 : decode prog_16_method_5_code 40 = .ok (.aload_n 0, 1) := by decide +kernel
theorem d10_41 : decode prog_16_method_5_code 41 = .ok (.getfield 30, 3) := by decide +kernel
theorem d10_44 : decode prog_16_method_5_code 44 = .ok (.iload_n 1, 1) := by decide +kernel
theorem d10_45 : decode prog_16_method_5_code 45 = .ok (.iaload, 1) := by decide +kernel
theorem d10_46 : decode prog_16_method_5_code 46 = .ok (.if_icmp .le 10, 3) := by decide +kernel
theorem d10_49 : decode prog_16_method_5_code 49 = .ok (.iload_n 1, 1) := by decide +kernel
theorem d10_50 : decode prog_16_method_5_code 50 = .ok (.istore_n 2, 1) := by decide +kernel
theorem d10_51 : decode prog_16_method_5_code 51 = .ok (.iload_n 3, 1) := by decide +kernel
theorem d10_52 : decode prog_16_method_5_code 52 = .ok (.istore_n 1, 1) := by decide +kernel
theorem d10_53 : decode prog_16_method_5_code 53 = .ok (.goto 20, 3) := by decide +kernel
theorem d10_56 : decode prog_16_method_5_code 56 = .ok (.aload_n 0, 1) := by decide +kernel
theorem d10_57 : decode prog_16_method_5_code 57 = .ok (.getfield 30, 3) := by decide +kernel
theorem d10_60 : decode prog_16_method_5_code 60 = .ok (.iload_n 3, 1) := by decide +kernel
theorem d10_61 : decode prog_16_method_5_code 61 = .ok (.iaload, 1) := by decide +kernel
theorem d10_62 : decode prog_16_method_5_code 62 = .ok (.aload_n 0, 1) := by decide +kernel
theorem d10_63 : decode prog_16_method_5_code 63 = .ok (.getfield 30, 3) := by decide +kernel
theorem d10_66 : decode prog_16_method_5_code 66 = .ok (.iload_n 2, 1) := by decide +kernel
theorem d10_67 : decode prog_16_method_5_code 67 = .ok (.iaload, 1) := by decide +kernel
theorem d10_68 : decode prog_16_method_5_code 68 = .ok (.if_icmp .le 5, 3) := by decide +kernel
theorem d10_71 : decode prog_16_method_5_code 71 = .ok (.iload_n 3, 1) := by decide +kernel
theorem d10_72 : decode prog_16_method_5_code 72 = .ok (.istore_n 2, 1) := by decide +kernel
theorem d10_73 : decode prog_16_method_5_code 73 = .ok (.iinc 3 1, 3) := by decide +kernel
theorem d10_76 : decode prog_16_method_5_code 76 = .ok (.goto (-51), 3) := by decide +kernel
theorem d10_79 : decode prog_16_method_5_code 79 = .ok (.iconst 2, 1) := by decide +kernel
theorem d10_80 : decode prog_16_method_5_code 80 = .ok (.newarray .int, 2) := by decide +kernel
theorem d10_82 : decode prog_16_method_5_code 82 = .ok (.dup, 1) := by decide +kernel
theorem d10_83 : decode prog_16_method_5_code 83 = .ok (.iconst 0, 1) := by decide +kernel
theorem d10_84 : decode prog_16_method_5_code 84 = .ok (.iload_n 1, 1) := by decide +kernel
theorem d10_85 : decode prog_16_method_5_code 85 = .ok (.iastore, 1) := by decide +kernel
theorem d10_86 : decode prog_16_method_5_code 86 = .ok (.dup, 1) := by decide +kernel
theorem d10_87 : decode prog_16_method_5_code 87 = .ok (.iconst 1, 1) := by decide +kernel
theorem d10_88 : decode prog_16_method_5_code 88 = .ok (.iload_n 2, 1) := by decide +kernel
theorem d10_89 : decode prog_16_method_5_code 89 = .ok (.iastore, 1) := by decide +kernel
theorem d10_90 : decode prog_16_method_5_code 90 = .ok (.areturn, 1) := by decide +kernel
theorem pn_10 : plainName "com/example/pathweave/pathweave/core/PairIndex" = true := by first | (simp [plainName, overriddenIn]; done) | decide +kernel
def b10_25 : Nat → Hp → Nat → Int32 → Int32 → Int32 → Option (Nat × Hp)
  | 0, _, _, _, _, _ => none
  | fu + 1, D, ob0, i1, i2, i3 =>
  (gR D ob0 1 0).bind fun x8 =>
  (lA D x8 0).bind fun x10 =>
  if i3 < x10 then ((gR D ob0 1 0).bind fun x12 =>
  (rI D x12 0 i3).bind fun x14 =>
  (gR D ob0 1 0).bind fun x15 =>
  (rI D x15 0 i1).bind fun x17 =>
  if x17 < x14 then (b10_25 fu D ob0 i3 i1 (i3 + (1 : Int32))) else ((gR D ob0 1 0).bind fun x19 =>
  (rI D x19 0 i3).bind fun x21 =>
  (gR D ob0 1 0).bind fun x22 =>
  (rI D x22 0 i2).bind fun x24 =>
  if x24 < x21 then (b10_25 fu D ob0 i1 i3 (i3 + (1 : Int32))) else (b10_25 fu D ob0 i1 i2 (i3 + (1 : Int32))))) else (own_let (D.length) fun a26 => (nA D 0 (2 : Int32) 2 (.int (0 : Int32))).bind fun D26 =>
  (wV D26 a26 0 (0 : Int32) (.int i1)).bind fun D27 =>
  (wV D27 a26 0 (1 : Int32) (.int i2)).bind fun D28 =>
  some (a26, D28))
set_option maxRecDepth 65536 in
set_option maxHeartbeats 40000000 in
theorem bt10_25 {p : Program} {l : Launch} {e : Env} {s : State} {m : MethodId} {args : Array Value} {below : List Frame} {meth : Method} {c : Code} {Z : State} {a0 : Array Value} {n0 : Nat} {D' : Hp} {r : Nat} (hw : ∀ d ∈ tables_1, d.before a0 Z = true) (hC : Cx p s m meth c Z prog_16_method_5_code 4 (some (.array .int)) "com/example/pathweave/pathweave/core/PairIndex" "largestTwo") (fu : Nat) : ∀ {T0 : State} {locs : List Loc} {cells slots : Nat} {h0 : Heap} {D : Hp} {ob0 : Nat} {i1 : Int32} {i2 : Int32} {i3 : Int32}, (Stand p l e ({ frames := 0, cells := 1, slots := 2, locals := 0 } : Room) s m args below meth c T0 locs cells slots) → (T0.heap = h0) → (Ow Kt1 Z h0 n0 D) → (Fr n0 locs) → (cells ≤ 0) → (slots ≤ 0) → (b10_25 fu D ob0 i1 i2 i3 = some (r, D')) → Gl p e below s 1 2 (Qw Kt1 Z n0 (some (.ref (n0 + r))) D') (T0.setTop (mkF m 25 #[.val (.ref (n0 + ob0)), .val (.int i1), .val (.int i2), .val (.int i3)] [])) := by
  obtain ⟨hx, hZ, hby, hml, hown, hnm, hret, hlk⟩ := id hC
  have hml : c.maxLocals = 4 := hml
  induction fu with
  | zero => intro T0 locs cells slots h0 D ob0 i1 i2 i3 X0 e0 O0 N0 hcc hss hf; cases hf
  | succ fu ih =>
    intro T0 locs cells slots h0 D ob0 i1 i2 i3 X0 e0 O0 N0 hcc hss hf
    rw [b10_25] at hf
    obtain ⟨x8, hx8, hf⟩ := own_bind hf
    obtain ⟨T9, X9, e9, st9⟩ := getF X0 hx hZ hown (host := "") (Or.inl (hw _ (List.mem_of_getElem? (i := 44) rfl))) Via.refl e0 (O0.fld (gR_e hx8) rfl rfl) (g := (mkF m 27 #[.val (.ref (n0 + ob0)), .val (.int i1), .val (.int i2), .val (.int i3)] [(.ref (n0 + ob0)), (.int i3)])) rfl rfl (hb hby d10_27)
    obtain ⟨x10, hx10, hf⟩ := own_bind hf
    refine Gl.on (B := T9.setTop (mkF m 31 #[.val (.ref (n0 + ob0)), .val (.int i1), .val (.int i2), .val (.int i3)] [(.int x10), (.int i3)])) (fun t k => ?_) ?_
    · show Steps p.tables e below (T0.setTop (mkF m 25 #[.val (.ref (n0 + ob0)), .val (.int i1), .val (.int i2), .val (.int i3)] [])) _
      refine XS.iloadN X0.here hx rfl (hb hby d10_25) rfl ?_
      show Steps p.tables e below (T0.setTop (mkF m 26 #[.val (.ref (n0 + ob0)), .val (.int i1), .val (.int i2), .val (.int i3)] [(.int i3)])) _
      refine XS.aloadN X0.here hx rfl (hb hby d10_26) rfl rfl ?_
      show Steps p.tables e below (T0.setTop (mkF m 27 #[.val (.ref (n0 + ob0)), .val (.int i1), .val (.int i2), .val (.int i3)] [(.ref (n0 + ob0)), (.int i3)])) _
      refine st9 _ ?_
      show Steps p.tables e below (T9.setTop (mkF m 30 #[.val (.ref (n0 + ob0)), .val (.int i1), .val (.int i2), .val (.int i3)] [(.ref (n0 + x8)), (.int i3)])) _
      refine lenW' X9 hx hZ e9 O0 hx10 (ty := .int) rfl (g := (mkF m 30 #[.val (.ref (n0 + ob0)), .val (.int i1), .val (.int i2), .val (.int i3)] [(.ref (n0 + x8)), (.int i3)])) rfl rfl (hb hby d10_30) _ ?_
      exact k
    by_cases hc11 : i3 < x10
    · rw [if_pos hc11] at hf
      obtain ⟨x12, hx12, hf⟩ := own_bind hf
      obtain ⟨T13, X13, e13, st13⟩ := getF X9 hx hZ hown (host := "") (Or.inl (hw _ (List.mem_of_getElem? (i := 44) rfl))) Via.refl e9 (O0.fld (gR_e hx12) rfl rfl) (g := (mkF m 35 #[.val (.ref (n0 + ob0)), .val (.int i1), .val (.int i2), .val (.int i3)] [(.ref (n0 + ob0))])) rfl rfl (hb hby d10_35)
      obtain ⟨x14, hx14, hf⟩ := own_bind hf
      obtain ⟨x15, hx15, hf⟩ := own_bind hf
      obtain ⟨T16, X16, e16, st16⟩ := getF X13 hx hZ hown (host := "") (Or.inl (hw _ (List.mem_of_getElem? (i := 44) rfl))) Via.refl e13 (O0.fld (gR_e hx15) rfl rfl) (g := (mkF m 41 #[.val (.ref (n0 + ob0)), .val (.int i1), .val (.int i2), .val (.int i3)] [(.ref (n0 + ob0)), (.int x14)])) rfl rfl (hb hby d10_41)
      obtain ⟨x17, hx17, hf⟩ := own_bind hf
      refine Gl.on (B := T16.setTop (mkF m 46 #[.val (.ref (n0 + ob0)), .val (.int i1), .val (.int i2), .val (.int i3)] [(.int x17), (.int x14)])) (fun t k => ?_) ?_
      · show Steps p.tables e below (T9.setTop (mkF m 31 #[.val (.ref (n0 + ob0)), .val (.int i1), .val (.int i2), .val (.int i3)] [(.int x10), (.int i3)])) _
        refine XS.icmpNo X9.here hx rfl (hb hby d10_31) rfl (tlt hc11).2.1 ?_
        show Steps p.tables e below (T9.setTop (mkF m 34 #[.val (.ref (n0 + ob0)), .val (.int i1), .val (.int i2), .val (.int i3)] [])) _
        refine XS.aloadN X9.here hx rfl (hb hby d10_34) rfl rfl ?_
        show Steps p.tables e below (T9.setTop (mkF m 35 #[.val (.ref (n0 + ob0)), .val (.int i1), .val (.int i2), .val (.int i3)] [(.ref (n0 + ob0))])) _
        refine st13 _ ?_
        show Steps p.tables e below (T13.setTop (mkF m 38 #[.val (.ref (n0 + ob0)), .val (.int i1), .val (.int i2), .val (.int i3)] [(.ref (n0 + x12))])) _
        refine XS.iloadN X13.here hx rfl (hb hby d10_38) rfl ?_
        show Steps p.tables e below (T13.setTop (mkF m 39 #[.val (.ref (n0 + ob0)), .val (.int i1), .val (.int i2), .val (.int i3)] [(.int i3), (.ref (n0 + x12))])) _
        refine ldW X13 hx hZ e13 O0 hx14 rfl (g := (mkF m 39 #[.val (.ref (n0 + ob0)), .val (.int i1), .val (.int i2), .val (.int i3)] [(.int i3), (.ref (n0 + x12))])) rfl rfl (hb hby d10_39) _ ?_
        show Steps p.tables e below (T13.setTop (mkF m 40 #[.val (.ref (n0 + ob0)), .val (.int i1), .val (.int i2), .val (.int i3)] [(.int x14)])) _
        refine XS.aloadN X13.here hx rfl (hb hby d10_40) rfl rfl ?_
        show Steps p.tables e below (T13.setTop (mkF m 41 #[.val (.ref (n0 + ob0)), .val (.int i1), .val (.int i2), .val (.int i3)] [(.ref (n0 + ob0)), (.int x14)])) _
        refine st16 _ ?_
        show Steps p.tables e below (T16.setTop (mkF m 44 #[.val (.ref (n0 + ob0)), .val (.int i1), .val (.int i2), .val (.int i3)] [(.ref (n0 + x15)), (.int x14)])) _
        refine XS.iloadN X16.here hx rfl (hb hby d10_44) rfl ?_
        show Steps p.tables e below (T16.setTop (mkF m 45 #[.val (.ref (n0 + ob0)), .val (.int i1), .val (.int i2), .val (.int i3)] [(.int i1), (.ref (n0 + x15)), (.int x14)])) _
        refine ldW X16 hx hZ e16 O0 hx17 rfl (g := (mkF m 45 #[.val (.ref (n0 + ob0)), .val (.int i1), .val (.int i2), .val (.int i3)] [(.int i1), (.ref (n0 + x15)), (.int x14)])) rfl rfl (hb hby d10_45) _ ?_
        exact k
      by_cases hc18 : x17 < x14
      · rw [if_pos hc18] at hf
        refine Gl.on (B := T16.setTop (mkF m 25 #[.val (.ref (n0 + ob0)), .val (.int i3), .val (.int i1), .val (.int (i3 + (1 : Int32)))] [])) (fun t k => ?_) ?_
        · show Steps p.tables e below (T16.setTop (mkF m 46 #[.val (.ref (n0 + ob0)), .val (.int i1), .val (.int i2), .val (.int i3)] [(.int x17), (.int x14)])) _
          refine XS.icmpNo X16.here hx rfl (hb hby d10_46) rfl (tlt hc18).2.2.2 ?_
          show Steps p.tables e below (T16.setTop (mkF m 49 #[.val (.ref (n0 + ob0)), .val (.int i1), .val (.int i2), .val (.int i3)] [])) _
          refine XS.iloadN X16.here hx rfl (hb hby d10_49) rfl ?_
          show Steps p.tables e below (T16.setTop (mkF m 50 #[.val (.ref (n0 + ob0)), .val (.int i1), .val (.int i2), .val (.int i3)] [(.int i1)])) _
          refine XS.istoreN X16.here hx rfl (hb hby d10_50) rfl (l' := #[.val (.ref (n0 + ob0)), .val (.int i1), .val (.int i1), .val (.int i3)]) rfl ?_
          show Steps p.tables e below (T16.setTop (mkF m 51 #[.val (.ref (n0 + ob0)), .val (.int i1), .val (.int i1), .val (.int i3)] [])) _
          refine XS.iloadN X16.here hx rfl (hb hby d10_51) rfl ?_
          show Steps p.tables e below (T16.setTop (mkF m 52 #[.val (.ref (n0 + ob0)), .val (.int i1), .val (.int i1), .val (.int i3)] [(.int i3)])) _
          refine XS.istoreN X16.here hx rfl (hb hby d10_52) rfl (l' := #[.val (.ref (n0 + ob0)), .val (.int i3), .val (.int i1), .val (.int i3)]) rfl ?_
          show Steps p.tables e below (T16.setTop (mkF m 53 #[.val (.ref (n0 + ob0)), .val (.int i3), .val (.int i1), .val (.int i3)] [])) _
          refine XS.goto X16.here hx rfl (pc0 := 53) (pc' := 73) rfl (hb hby d10_53) (by decide) (by decide) ?_
          show Steps p.tables e below (T16.setTop (mkF m 73 #[.val (.ref (n0 + ob0)), .val (.int i3), .val (.int i1), .val (.int i3)] [])) _
          refine XS.iinc X16.here hx rfl (hb hby d10_73) rfl (l' := #[.val (.ref (n0 + ob0)), .val (.int i3), .val (.int i1), .val (.int (i3 + (1 : Int32)))]) rfl ?_
          show Steps p.tables e below (T16.setTop (mkF m 76 #[.val (.ref (n0 + ob0)), .val (.int i3), .val (.int i1), .val (.int (i3 + (1 : Int32)))] [])) _
          refine XS.goto X16.here hx rfl (pc0 := 76) (pc' := 25) rfl (hb hby d10_76) (by decide) (by decide) ?_
          exact k
        exact ih X16 e16 O0 N0 (by omega) (by omega) hf
      · rw [if_neg hc18] at hf
        obtain ⟨x19, hx19, hf⟩ := own_bind hf
        obtain ⟨T20, X20, e20, st20⟩ := getF X16 hx hZ hown (host := "") (Or.inl (hw _ (List.mem_of_getElem? (i := 44) rfl))) Via.refl e16 (O0.fld (gR_e hx19) rfl rfl) (g := (mkF m 57 #[.val (.ref (n0 + ob0)), .val (.int i1), .val (.int i2), .val (.int i3)] [(.ref (n0 + ob0))])) rfl rfl (hb hby d10_57)
        obtain ⟨x21, hx21, hf⟩ := own_bind hf
        obtain ⟨x22, hx22, hf⟩ := own_bind hf
        obtain ⟨T23, X23, e23, st23⟩ := getF X20 hx hZ hown (host := "") (Or.inl (hw _ (List.mem_of_getElem? (i := 44) rfl))) Via.refl e20 (O0.fld (gR_e hx22) rfl rfl) (g := (mkF m 63 #[.val (.ref (n0 + ob0)), .val (.int i1), .val (.int i2), .val (.int i3)] [(.ref (n0 + ob0)), (.int x21)])) rfl rfl (hb hby d10_63)
        obtain ⟨x24, hx24, hf⟩ := own_bind hf
        refine Gl.on (B := T23.setTop (mkF m 68 #[.val (.ref (n0 + ob0)), .val (.int i1), .val (.int i2), .val (.int i3)] [(.int x24), (.int x21)])) (fun t k => ?_) ?_
        · show Steps p.tables e below (T16.setTop (mkF m 46 #[.val (.ref (n0 + ob0)), .val (.int i1), .val (.int i2), .val (.int i3)] [(.int x17), (.int x14)])) _
          refine XS.icmpYes X16.here hx rfl (pc0 := 46) (pc' := 56) rfl (hb hby d10_46) rfl (flt hc18).2.2.2 (by decide) (by decide) ?_
          show Steps p.tables e below (T16.setTop (mkF m 56 #[.val (.ref (n0 + ob0)), .val (.int i1), .val (.int i2), .val (.int i3)] [])) _
          refine XS.aloadN X16.here hx rfl (hb hby d10_56) rfl rfl ?_
          show Steps p.tables e below (T16.setTop (mkF m 57 #[.val (.ref (n0 + ob0)), .val (.int i1), .val (.int i2), .val (.int i3)] [(.ref (n0 + ob0))])) _
          refine st20 _ ?_
          show Steps p.tables e below (T20.setTop (mkF m 60 #[.val (.ref (n0 + ob0)), .val (.int i1), .val (.int i2), .val (.int i3)] [(.ref (n0 + x19))])) _
          refine XS.iloadN X20.here hx rfl (hb hby d10_60) rfl ?_
          show Steps p.tables e below (T20.setTop (mkF m 61 #[.val (.ref (n0 + ob0)), .val (.int i1), .val (.int i2), .val (.int i3)] [(.int i3), (.ref (n0 + x19))])) _
          refine ldW X20 hx hZ e20 O0 hx21 rfl (g := (mkF m 61 #[.val (.ref (n0 + ob0)), .val (.int i1), .val (.int i2), .val (.int i3)] [(.int i3), (.ref (n0 + x19))])) rfl rfl (hb hby d10_61) _ ?_
          show Steps p.tables e below (T20.setTop (mkF m 62 #[.val (.ref (n0 + ob0)), .val (.int i1), .val (.int i2), .val (.int i3)] [(.int x21)])) _
          refine XS.aloadN X20.here hx rfl (hb hby d10_62) rfl rfl ?_
          show Steps p.tables e below (T20.setTop (mkF m 63 #[.val (.ref (n0 + ob0)), .val (.int i1), .val (.int i2), .val (.int i3)] [(.ref (n0 + ob0)), (.int x21)])) _
          refine st23 _ ?_
          show Steps p.tables e below (T23.setTop (mkF m 66 #[.val (.ref (n0 + ob0)), .val (.int i1), .val (.int i2), .val (.int i3)] [(.ref (n0 + x22)), (.int x21)])) _
          refine XS.iloadN X23.here hx rfl (hb hby d10_66) rfl ?_
          show Steps p.tables e below (T23.setTop (mkF m 67 #[.val (.ref (n0 + ob0)), .val (.int i1), .val (.int i2), .val (.int i3)] [(.int i2), (.ref (n0 + x22)), (.int x21)])) _
          refine ldW X23 hx hZ e23 O0 hx24 rfl (g := (mkF m 67 #[.val (.ref (n0 + ob0)), .val (.int i1), .val (.int i2), .val (.int i3)] [(.int i2), (.ref (n0 + x22)), (.int x21)])) rfl rfl (hb hby d10_67) _ ?_
          exact k
        by_cases hc25 : x24 < x21
        · rw [if_pos hc25] at hf
          refine Gl.on (B := T23.setTop (mkF m 25 #[.val (.ref (n0 + ob0)), .val (.int i1), .val (.int i3), .val (.int (i3 + (1 : Int32)))] [])) (fun t k => ?_) ?_
          · show Steps p.tables e below (T23.setTop (mkF m 68 #[.val (.ref (n0 + ob0)), .val (.int i1), .val (.int i2), .val (.int i3)] [(.int x24), (.int x21)])) _
            refine XS.icmpNo X23.here hx rfl (hb hby d10_68) rfl (tlt hc25).2.2.2 ?_
            show Steps p.tables e below (T23.setTop (mkF m 71 #[.val (.ref (n0 + ob0)), .val (.int i1), .val (.int i2), .val (.int i3)] [])) _
            refine XS.iloadN X23.here hx rfl (hb hby d10_71) rfl ?_
            show Steps p.tables e below (T23.setTop (mkF m 72 #[.val (.ref (n0 + ob0)), .val (.int i1), .val (.int i2), .val (.int i3)] [(.int i3)])) _
            refine XS.istoreN X23.here hx rfl (hb hby d10_72) rfl (l' := #[.val (.ref (n0 + ob0)), .val (.int i1), .val (.int i3), .val (.int i3)]) rfl ?_
            show Steps p.tables e below (T23.setTop (mkF m 73 #[.val (.ref (n0 + ob0)), .val (.int i1), .val (.int i3), .val (.int i3)] [])) _
            refine XS.iinc X23.here hx rfl (hb hby d10_73) rfl (l' := #[.val (.ref (n0 + ob0)), .val (.int i1), .val (.int i3), .val (.int (i3 + (1 : Int32)))]) rfl ?_
            show Steps p.tables e below (T23.setTop (mkF m 76 #[.val (.ref (n0 + ob0)), .val (.int i1), .val (.int i3), .val (.int (i3 + (1 : Int32)))] [])) _
            refine XS.goto X23.here hx rfl (pc0 := 76) (pc' := 25) rfl (hb hby d10_76) (by decide) (by decide) ?_
            exact k
          exact ih X23 e23 O0 N0 (by omega) (by omega) hf
        · rw [if_neg hc25] at hf
          refine Gl.on (B := T23.setTop (mkF m 25 #[.val (.ref (n0 + ob0)), .val (.int i1), .val (.int i2), .val (.int (i3 + (1 : Int32)))] [])) (fun t k => ?_) ?_
          · show Steps p.tables e below (T23.setTop (mkF m 68 #[.val (.ref (n0 + ob0)), .val (.int i1), .val (.int i2), .val (.int i3)] [(.int x24), (.int x21)])) _
            refine XS.icmpYes X23.here hx rfl (pc0 := 68) (pc' := 73) rfl (hb hby d10_68) rfl (flt hc25).2.2.2 (by decide) (by decide) ?_
            show Steps p.tables e below (T23.setTop (mkF m 73 #[.val (.ref (n0 + ob0)), .val (.int i1), .val (.int i2), .val (.int i3)] [])) _
            refine XS.iinc X23.here hx rfl (hb hby d10_73) rfl (l' := #[.val (.ref (n0 + ob0)), .val (.int i1), .val (.int i2), .val (.int (i3 + (1 : Int32)))]) rfl ?_
            show Steps p.tables e below (T23.setTop (mkF m 76 #[.val (.ref (n0 + ob0)), .val (.int i1), .val (.int i2), .val (.int (i3 + (1 : Int32)))] [])) _
            refine XS.goto X23.here hx rfl (pc0 := 76) (pc' := 25) rfl (hb hby d10_76) (by decide) (by decide) ?_
            exact k
          exact ih X23 e23 O0 N0 (by omega) (by omega) hf
    · rw [if_neg hc11] at hf
      obtain ⟨a26, ha26, hf⟩ := own_letE hf
      obtain ⟨D26, hD26, hf⟩ := own_bind hf
      obtain ⟨T26, h26, X26, e26, O26, st26⟩ := newAW X9 hx hZ (aty := .int) (hw _ (List.mem_of_getElem? (i := 0) rfl)) e9 O0 rfl rfl hD26 (g := (mkF m 80 #[.val (.ref (n0 + ob0)), .val (.int i1), .val (.int i2), .val (.int i3)] [(.int (2 : Int32))])) rfl (hb hby d10_80) rfl (by decide) (by show _ + 1 ≤ 1; omega) (by show _ + 2 ≤ 2; omega)
      rw [ha26] at st26
      obtain ⟨D27, hq27, hf⟩ := own_bind hf
      obtain ⟨T27, h27, L27, X27, e27, O27, N27, st27⟩ := stIW X26 hx hZ e26 O26 N0 hq27 rfl (g := (mkF m 85 #[.val (.ref (n0 + ob0)), .val (.int i1), .val (.int i2), .val (.int i3)] [(.int i1), (.int (0 : Int32)), (.ref (n0 + a26)), (.ref (n0 + a26))])) rfl rfl (hb hby d10_85)
      obtain ⟨D28, hq28, hf⟩ := own_bind hf
      obtain ⟨T28, h28, L28, X28, e28, O28, N28, st28⟩ := stIW X27 hx hZ e27 O27 N27 hq28 rfl (g := (mkF m 89 #[.val (.ref (n0 + ob0)), .val (.int i1), .val (.int i2), .val (.int i3)] [(.int i2), (.int (1 : Int32)), (.ref (n0 + a26)), (.ref (n0 + a26))])) rfl rfl (hb hby d10_89)
      refine Gl.on (B := T28.setTop (mkF m 90 #[.val (.ref (n0 + ob0)), .val (.int i1), .val (.int i2), .val (.int i3)] [(.ref (n0 + a26))])) (fun t k => ?_) ?_
      · show Steps p.tables e below (T9.setTop (mkF m 31 #[.val (.ref (n0 + ob0)), .val (.int i1), .val (.int i2), .val (.int i3)] [(.int x10), (.int i3)])) _
        refine XS.icmpYes X9.here hx rfl (pc0 := 31) (pc' := 79) rfl (hb hby d10_31) rfl (flt hc11).2.1 (by decide) (by decide) ?_
        show Steps p.tables e below (T9.setTop (mkF m 79 #[.val (.ref (n0 + ob0)), .val (.int i1), .val (.int i2), .val (.int i3)] [])) _
        refine XS.iconst X9.here hx rfl (hb hby d10_79) ?_
        show Steps p.tables e below (T9.setTop (mkF m 80 #[.val (.ref (n0 + ob0)), .val (.int i1), .val (.int i2), .val (.int i3)] [(.int (2 : Int32))])) _
        refine st26 _ ?_
        show Steps p.tables e below (T26.setTop (mkF m 82 #[.val (.ref (n0 + ob0)), .val (.int i1), .val (.int i2), .val (.int i3)] [(.ref (n0 + a26))])) _
        refine XS.dup X26.here hx rfl (hb hby d10_82) rfl rfl ?_
        show Steps p.tables e below (T26.setTop (mkF m 83 #[.val (.ref (n0 + ob0)), .val (.int i1), .val (.int i2), .val (.int i3)] [(.ref (n0 + a26)), (.ref (n0 + a26))])) _
        refine XS.iconst X26.here hx rfl (hb hby d10_83) ?_
        show Steps p.tables e below (T26.setTop (mkF m 84 #[.val (.ref (n0 + ob0)), .val (.int i1), .val (.int i2), .val (.int i3)] [(.int (0 : Int32)), (.ref (n0 + a26)), (.ref (n0 + a26))])) _
        refine XS.iloadN X26.here hx rfl (hb hby d10_84) rfl ?_
        show Steps p.tables e below (T26.setTop (mkF m 85 #[.val (.ref (n0 + ob0)), .val (.int i1), .val (.int i2), .val (.int i3)] [(.int i1), (.int (0 : Int32)), (.ref (n0 + a26)), (.ref (n0 + a26))])) _
        refine st27 _ ?_
        show Steps p.tables e below (T27.setTop (mkF m 86 #[.val (.ref (n0 + ob0)), .val (.int i1), .val (.int i2), .val (.int i3)] [(.ref (n0 + a26))])) _
        refine XS.dup X27.here hx rfl (hb hby d10_86) rfl rfl ?_
        show Steps p.tables e below (T27.setTop (mkF m 87 #[.val (.ref (n0 + ob0)), .val (.int i1), .val (.int i2), .val (.int i3)] [(.ref (n0 + a26)), (.ref (n0 + a26))])) _
        refine XS.iconst X27.here hx rfl (hb hby d10_87) ?_
        show Steps p.tables e below (T27.setTop (mkF m 88 #[.val (.ref (n0 + ob0)), .val (.int i1), .val (.int i2), .val (.int i3)] [(.int (1 : Int32)), (.ref (n0 + a26)), (.ref (n0 + a26))])) _
        refine XS.iloadN X27.here hx rfl (hb hby d10_88) rfl ?_
        show Steps p.tables e below (T27.setTop (mkF m 89 #[.val (.ref (n0 + ob0)), .val (.int i1), .val (.int i2), .val (.int i3)] [(.int i2), (.int (1 : Int32)), (.ref (n0 + a26)), (.ref (n0 + a26))])) _
        refine st28 _ ?_
        exact k
      obtain ⟨rfl, rfl⟩ := own_inj hf
      exact Gl.outR X28 hx hlk hret rfl (hb hby d10_90) ⟨rfl, N28, by rw [e28]; exact O28⟩ (by show _ ≤ 1; omega) (by show _ ≤ 2; omega)
def b10_23 (D : Hp) (ob0 : Nat) (i1 : Int32) (i2 : Int32) : Option (Nat × Hp) :=
  b10_25 12 D ob0 i1 i2 (2 : Int32)
set_option maxRecDepth 65536 in
set_option maxHeartbeats 40000000 in
theorem bt10_23 {p : Program} {l : Launch} {e : Env} {s : State} {m : MethodId} {args : Array Value} {below : List Frame} {meth : Method} {c : Code} {Z : State} {a0 : Array Value} {n0 : Nat} {D' : Hp} {r : Nat} {T0 : State} {locs : List Loc} {cells slots : Nat} {h0 : Heap} {D : Hp} {ob0 : Nat} {i1 : Int32} {i2 : Int32} (hw : ∀ d ∈ tables_1, d.before a0 Z = true) (hC : Cx p s m meth c Z prog_16_method_5_code 4 (some (.array .int)) "com/example/pathweave/pathweave/core/PairIndex" "largestTwo") (X0 : Stand p l e ({ frames := 0, cells := 1, slots := 2, locals := 0 } : Room) s m args below meth c T0 locs cells slots) (e0 : T0.heap = h0) (O0 : Ow Kt1 Z h0 n0 D) (N0 : Fr n0 locs) (hcc : cells ≤ 0) (hss : slots ≤ 0) (hf : b10_23 D ob0 i1 i2 = some (r, D')) : Gl p e below s 1 2 (Qw Kt1 Z n0 (some (.ref (n0 + r))) D') (T0.setTop (mkF m 23 #[.val (.ref (n0 + ob0)), .val (.int i1), .val (.int i2), .unset] [])) := by
  obtain ⟨hx, hZ, hby, hml, hown, hnm, hret, hlk⟩ := id hC
  have hml : c.maxLocals = 4 := hml
  rw [b10_23] at hf
  refine Gl.on (B := T0.setTop (mkF m 25 #[.val (.ref (n0 + ob0)), .val (.int i1), .val (.int i2), .val (.int (2 : Int32))] [])) (fun t k => ?_) ?_
  · show Steps p.tables e below (T0.setTop (mkF m 23 #[.val (.ref (n0 + ob0)), .val (.int i1), .val (.int i2), .unset] [])) _
    refine XS.iconst X0.here hx rfl (hb hby d10_23) ?_
    show Steps p.tables e below (T0.setTop (mkF m 24 #[.val (.ref (n0 + ob0)), .val (.int i1), .val (.int i2), .unset] [(.int (2 : Int32))])) _
    refine XS.istoreN X0.here hx rfl (hb hby d10_24) rfl (l' := #[.val (.ref (n0 + ob0)), .val (.int i1), .val (.int i2), .val (.int (2 : Int32))]) rfl ?_
    exact k
  exact bt10_25 hw hC 12 X0 e0 O0 N0 (by omega) (by omega) hf
def f10 (D : Hp) (ob0 : Nat) : Option (Nat × Hp) :=
  (gR D ob0 1 0).bind fun x1 =>
  (rI D x1 0 (1 : Int32)).bind fun x3 =>
  (gR D ob0 1 0).bind fun x4 =>
  (rI D x4 0 (0 : Int32)).bind fun x6 =>
  if x6 < x3 then (b10_23 D ob0 (1 : Int32) (0 : Int32)) else (b10_23 D ob0 (0 : Int32) (1 : Int32))
theorem ef_10 (m : MethodId) (n0 : Nat) (ob0 : Nat) : entryFrame m #[(.ref (n0 + ob0))] 4 = mkF m 0 #[.val (.ref (n0 + ob0)), .unset, .unset, .unset] [] := by first | (simp [entryFrame, mkF, argsToLocals, Value.category]; done) | rfl
set_option maxRecDepth 65536 in
set_option maxHeartbeats 40000000 in
theorem ct10 {l : Launch} {Z : State} {a0 : Array Value} (hw : ∀ d ∈ tables_1, d.before a0 Z = true) {n0 : Nat} {D D' : Hp} {ob0 : Nat} {r : Nat} (hf : f10 D ob0 = some (r, D')) :
    Ct Kt1 l Z (⟨"com/example/pathweave/pathweave/core/PairIndex", "largestTwo", "()[I"⟩ : MethodName) (.code (⟨"com/example/pathweave/pathweave/core/PairIndex", "largestTwo", "()[I"⟩ : MethodName) prog_16_method_5_code 4 (some (.array .int))) ({ frames := 0, cells := 1, slots := 2, locals := 0 } : Room) n0 D #[(.ref (n0 + ob0))] (some (.ref (n0 + r))) D' := by
  refine Ct.of (plainFor_of_name pn_10) ?_
  intro p e s m below meth c T0 h0 hC X0 e0 O0
  obtain ⟨hx, hZ, hby, hml, hown, hnm, hret, hlk⟩ := id hC
  have hml : c.maxLocals = 4 := hml
  have hown : s.vm.findClass "com/example/pathweave/pathweave/core/PairIndex" = some m.cls := hown
  have hnm : meth.name = "largestTwo" := hnm
  have N0 := Fr.nil n0
  refine Gl.on (fun t k => castTop (ef_10 m n0 ob0) k) ?_
  rw [f10] at hf
  obtain ⟨x1, hx1, hf⟩ := own_bind hf
  obtain ⟨T2, X2, e2, st2⟩ := getF X0 hx hZ hown (host := "") (Or.inl (hw _ (List.mem_of_getElem? (i := 44) rfl))) Via.refl e0 (O0.fld (gR_e hx1) rfl rfl) (g := (mkF m 5 #[.val (.ref (n0 + ob0)), .val (.int (0 : Int32)), .val (.int (1 : Int32)), .unset] [(.ref (n0 + ob0))])) rfl rfl (hb hby d10_5)
  obtain ⟨x3, hx3, hf⟩ := own_bind hf
  obtain ⟨x4, hx4, hf⟩ := own_bind hf
  obtain ⟨T5, X5, e5, st5⟩ := getF X2 hx hZ hown (host := "") (Or.inl (hw _ (List.mem_of_getElem? (i := 44) rfl))) Via.refl e2 (O0.fld (gR_e hx4) rfl rfl) (g := (mkF m 11 #[.val (.ref (n0 + ob0)), .val (.int (0 : Int32)), .val (.int (1 : Int32)), .unset] [(.ref (n0 + ob0)), (.int x3)])) rfl rfl (hb hby d10_11)
  obtain ⟨x6, hx6, hf⟩ := own_bind hf
  refine Gl.on (B := T5.setTop (mkF m 16 #[.val (.ref (n0 + ob0)), .val (.int (0 : Int32)), .val (.int (1 : Int32)), .unset] [(.int x6), (.int x3)])) (fun t k => ?_) ?_
  · show Steps p.tables e below (T0.setTop (mkF m 0 #[.val (.ref (n0 + ob0)), .unset, .unset, .unset] [])) _
    refine XS.iconst X0.here hx rfl (hb hby d10_0) ?_
    show Steps p.tables e below (T0.setTop (mkF m 1 #[.val (.ref (n0 + ob0)), .unset, .unset, .unset] [(.int (0 : Int32))])) _
    refine XS.istoreN X0.here hx rfl (hb hby d10_1) rfl (l' := #[.val (.ref (n0 + ob0)), .val (.int (0 : Int32)), .unset, .unset]) rfl ?_
    show Steps p.tables e below (T0.setTop (mkF m 2 #[.val (.ref (n0 + ob0)), .val (.int (0 : Int32)), .unset, .unset] [])) _
    refine XS.iconst X0.here hx rfl (hb hby d10_2) ?_
    show Steps p.tables e below (T0.setTop (mkF m 3 #[.val (.ref (n0 + ob0)), .val (.int (0 : Int32)), .unset, .unset] [(.int (1 : Int32))])) _
    refine XS.istoreN X0.here hx rfl (hb hby d10_3) rfl (l' := #[.val (.ref (n0 + ob0)), .val (.int (0 : Int32)), .val (.int (1 : Int32)), .unset]) rfl ?_
    show Steps p.tables e below (T0.setTop (mkF m 4 #[.val (.ref (n0 + ob0)), .val (.int (0 : Int32)), .val (.int (1 : Int32)), .unset] [])) _
    refine XS.aloadN X0.here hx rfl (hb hby d10_4) rfl rfl ?_
    show Steps p.tables e below (T0.setTop (mkF m 5 #[.val (.ref (n0 + ob0)), .val (.int (0 : Int32)), .val (.int (1 : Int32)), .unset] [(.ref (n0 + ob0))])) _
    refine st2 _ ?_
    show Steps p.tables e below (T2.setTop (mkF m 8 #[.val (.ref (n0 + ob0)), .val (.int (0 : Int32)), .val (.int (1 : Int32)), .unset] [(.ref (n0 + x1))])) _
    refine XS.iconst X2.here hx rfl (hb hby d10_8) ?_
    show Steps p.tables e below (T2.setTop (mkF m 9 #[.val (.ref (n0 + ob0)), .val (.int (0 : Int32)), .val (.int (1 : Int32)), .unset] [(.int (1 : Int32)), (.ref (n0 + x1))])) _
    refine ldW X2 hx hZ e2 O0 hx3 rfl (g := (mkF m 9 #[.val (.ref (n0 + ob0)), .val (.int (0 : Int32)), .val (.int (1 : Int32)), .unset] [(.int (1 : Int32)), (.ref (n0 + x1))])) rfl rfl (hb hby d10_9) _ ?_
    show Steps p.tables e below (T2.setTop (mkF m 10 #[.val (.ref (n0 + ob0)), .val (.int (0 : Int32)), .val (.int (1 : Int32)), .unset] [(.int x3)])) _
    refine XS.aloadN X2.here hx rfl (hb hby d10_10) rfl rfl ?_
    show Steps p.tables e below (T2.setTop (mkF m 11 #[.val (.ref (n0 + ob0)), .val (.int (0 : Int32)), .val (.int (1 : Int32)), .unset] [(.ref (n0 + ob0)), (.int x3)])) _
    refine st5 _ ?_
    show Steps p.tables e below (T5.setTop (mkF m 14 #[.val (.ref (n0 + ob0)), .val (.int (0 : Int32)), .val (.int (1 : Int32)), .unset] [(.ref (n0 + x4)), (.int x3)])) _
    refine XS.iconst X5.here hx rfl (hb hby d10_14) ?_
    show Steps p.tables e below (T5.setTop (mkF m 15 #[.val (.ref (n0 + ob0)), .val (.int (0 : Int32)), .val (.int (1 : Int32)), .unset] [(.int (0 : Int32)), (.ref (n0 + x4)), (.int x3)])) _
    refine ldW X5 hx hZ e5 O0 hx6 rfl (g := (mkF m 15 #[.val (.ref (n0 + ob0)), .val (.int (0 : Int32)), .val (.int (1 : Int32)), .unset] [(.int (0 : Int32)), (.ref (n0 + x4)), (.int x3)])) rfl rfl (hb hby d10_15) _ ?_
    exact k
  by_cases hc7 : x6 < x3
  · rw [if_pos hc7] at hf
    refine Gl.on (B := T5.setTop (mkF m 23 #[.val (.ref (n0 + ob0)), .val (.int (1 : Int32)), .val (.int (0 : Int32)), .unset] [])) (fun t k => ?_) ?_
    · show Steps p.tables e below (T5.setTop (mkF m 16 #[.val (.ref (n0 + ob0)), .val (.int (0 : Int32)), .val (.int (1 : Int32)), .unset] [(.int x6), (.int x3)])) _
      refine XS.icmpNo X5.here hx rfl (hb hby d10_16) rfl (tlt hc7).2.2.2 ?_
      show Steps p.tables e below (T5.setTop (mkF m 19 #[.val (.ref (n0 + ob0)), .val (.int (0 : Int32)), .val (.int (1 : Int32)), .unset] [])) _
      refine XS.iconst X5.here hx rfl (hb hby d10_19) ?_
      show Steps p.tables e below (T5.setTop (mkF m 20 #[.val (.ref (n0 + ob0)), .val (.int (0 : Int32)), .val (.int (1 : Int32)), .unset] [(.int (1 : Int32))])) _
      refine XS.istoreN X5.here hx rfl (hb hby d10_20) rfl (l' := #[.val (.ref (n0 + ob0)), .val (.int (1 : Int32)), .val (.int (1 : Int32)), .unset]) rfl ?_
      show Steps p.tables e below (T5.setTop (mkF m 21 #[.val (.ref (n0 + ob0)), .val (.int (1 : Int32)), .val (.int (1 : Int32)), .unset] [])) _
      refine XS.iconst X5.here hx rfl (hb hby d10_21) ?_
      show Steps p.tables e below (T5.setTop (mkF m 22 #[.val (.ref (n0 + ob0)), .val (.int (1 : Int32)), .val (.int (1 : Int32)), .unset] [(.int (0 : Int32))])) _
      refine XS.istoreN X5.here hx rfl (hb hby d10_22) rfl (l' := #[.val (.ref (n0 + ob0)), .val (.int (1 : Int32)), .val (.int (0 : Int32)), .unset]) rfl ?_
      exact k
    exact bt10_23 hw hC X5 e5 O0 N0 (by omega) (by omega) hf
  · rw [if_neg hc7] at hf
    refine Gl.on (B := T5.setTop (mkF m 23 #[.val (.ref (n0 + ob0)), .val (.int (0 : Int32)), .val (.int (1 : Int32)), .unset] [])) (fun t k => ?_) ?_
    · show Steps p.tables e below (T5.setTop (mkF m 16 #[.val (.ref (n0 + ob0)), .val (.int (0 : Int32)), .val (.int (1 : Int32)), .unset] [(.int x6), (.int x3)])) _
      refine XS.icmpYes X5.here hx rfl (pc0 := 16) (pc' := 23) rfl (hb hby d10_16) rfl (flt hc7).2.2.2 (by decide) (by decide) ?_
      exact k
    exact bt10_23 hw hC X5 e5 O0 N0 (by omega) (by omega) hf
theorem d11_0 : decode method_5_code 0 = .ok (.iload_n 1, 1) := by decide +kernel
theorem d11_1 : decode method_5_code 1 = .ok (.iload_n 2, 1) := by decide +kernel
theorem d11_2 : decode method_5_code 2 = .ok (.if_icmp .lt 5, 3) := by decide +kernel
theorem d11_5 : decode method_5_code 5 = .ok (.iconst 1, 1) := by decide +kernel
theorem d11_6 : decode method_5_code 6 = .ok (.ireturn, 1) := by decide +kernel
theorem d11_7 : decode method_5_code 7 = .ok (.iload_n 1, 1) := by decide +kernel
theorem d11_8 : decode method_5_code 8 = .ok (.iload_n 3, 1) := by decide +kernel
theorem d11_9 : decode method_5_code 9 = .ok (.if_icmp .ge 20, 3) := by decide +kernel
theorem d11_12 : decode method_5_code 12 = .ok (.aload_n 0, 1) := by decide +kernel
theorem d11_13 : decode method_5_code 13 = .ok (.iload_n 1, 1) := by decide +kernel
theorem d11_14 : decode method_5_code 14 = .ok (.iaload, 1) := by decide +kernel
theorem d11_15 : decode method_5_code 15 = .ok (.aload_n 0, 1) := by decide +kernel
theorem d11_16 : decode method_5_code 16 = .ok (.iload_n 3, 1) := by decide +kernel
theorem d11_17 : decode method_5_code 17 = .ok (.iaload, 1) := by decide +kernel
theorem d11_18 : decode method_5_code 18 = .ok (.if_icmp .ge 7, 3) := by decide +kernel
theorem d11_21 : decode method_5_code 21 = .ok (.iconst 1, 1) := by decide +kernel
theorem d11_22 : decode method_5_code 22 = .ok (.goto 21, 3) := by decide +kernel
theorem d11_25 : decode method_5_code 25 = .ok (.iconst 0, 1) := by decide +kernel
theorem d11_26 : decode method_5_code 26 = .ok (.goto 17, 3) := by decide +kernel
theorem d11_29 : decode method_5_code 29 = .ok (.aload_n 0, 1) := by decide +kernel
theorem d11_30 : decode method_5_code 30 = .ok (.iload_n 1, 1) := by decide +kernel
theorem d11_31 : decode method_5_code 31 = .ok (.iaload, 1) := by decide +kernel
theorem d11_32 : decode method_5_code 32 = .ok (.aload_n 0, 1) := by decide +kernel
theorem d11_33 : decode method_5_code 33 = .ok (.iload_n 3, 1) := by decide +kernel
theorem d11_34 : decode method_5_code 34 = .ok (.iaload, 1) := by decide +kernel
theorem d11_35 : decode method_5_code 35 = .ok (.if_icmp .gt 7, 3) := by decide +kernel
theorem d11_38 : decode method_5_code 38 = .ok (.iconst 1, 1) := by decide +kernel
theorem d11_39 : decode method_5_code 39 = .ok (.goto 4, 3) := by decide +kernel
theorem d11_42 : decode method_5_code 42 = .ok (.iconst 0, 1) := by decide +kernel
theorem d11_43 : decode method_5_code 43 = .ok (.istore 5, 2) := by decide +kernel
theorem d11_45 : decode method_5_code 45 = .ok (.iload 5, 2) := by decide +kernel
theorem d11_47 : decode method_5_code 47 = .ok (.ifCond .ne 5, 3) := by decide +kernel
theorem d11_50 : decode method_5_code 50 = .ok (.iconst 0, 1) := by decide +kernel
theorem d11_51 : decode method_5_code 51 = .ok (.ireturn, 1) := by decide +kernel
theorem d11_52 : decode method_5_code 52 = .ok (.iload_n 1, 1) := by decide +kernel
theorem d11_53 : decode method_5_code 53 = .ok (.iload_n 3, 1) := by decide +kernel
theorem d11_54 : decode method_5_code 54 = .ok (.if_icmp .ne 5, 3) := by decide +kernel
theorem d11_57 : decode method_5_code 57 = .ok (.iconst 1, 1) := by decide +kernel
theorem d11_58 : decode method_5_code 58 = .ok (.ireturn, 1) := by decide +kernel
theorem d11_59 : decode method_5_code 59 = .ok (.iload_n 1, 1) := by decide +kernel
theorem d11_60 : decode method_5_code 60 = .ok (.iload 4, 2) := by decide +kernel
theorem d11_62 : decode method_5_code 62 = .ok (.if_icmp .ge 21, 3) := by decide +kernel
theorem d11_65 : decode method_5_code 65 = .ok (.aload_n 0, 1) := by decide +kernel
theorem d11_66 : decode method_5_code 66 = .ok (.iload_n 1, 1) := by decide +kernel
theorem d11_67 : decode method_5_code 67 = .ok (.iaload, 1) := by decide +kernel
theorem d11_68 : decode method_5_code 68 = .ok (.aload_n 0, 1) := by decide +kernel
theorem d11_69 : decode method_5_code 69 = .ok (.iload 4, 2) := by decide +kernel
theorem d11_71 : decode method_5_code 71 = .ok (.iaload, 1) := by decide +kernel
theorem d11_72 : decode method_5_code 72 = .ok (.if_icmp .ge 7, 3) := by decide +kernel
theorem d11_75 : decode method_5_code 75 = .ok (.iconst 1, 1) := by decide +kernel
theorem d11_76 : decode method_5_code 76 = .ok (.goto 22, 3) := by decide +kernel
theorem d11_79 : decode method_5_code 79 = .ok (.iconst 0, 1) := by decide +kernel
theorem d11_80 : decode method_5_code 80 = .ok (.goto 18, 3) := by decide +kernel
theorem d11_83 : decode method_5_code 83 = .ok (.aload_n 0, 1) := by decide +kernel
theorem d11_84 : decode method_5_code 84 = .ok (.iload_n 1, 1) := by decide +kernel
theorem d11_85 : decode method_5_code 85 = .ok (.iaload, 1) := by decide +kernel
theorem d11_86 : decode method_5_code 86 = .ok (.aload_n 0, 1) := by decide +kernel
theorem d11_87 : decode method_5_code 87 = .ok (.iload 4, 2) := by decide +kernel
theorem d11_89 : decode method_5_code 89 = .ok (.iaload, 1) := by decide +kernel
theorem d11_90 : decode method_5_code 90 = .ok (.if_icmp .gt 7, 3) := by decide +kernel
theorem d11_93 : decode method_5_code 93 = .ok (.iconst 1, 1) := by decide +kernel
theorem d11_94 : decode method_5_code 94 = .ok (.goto 4, 3) := by decide +kernel
theorem d11_97 : decode method_5_code 97 = .ok (.iconst 0, 1) := by decide +kernel
theorem d11_98 : decode method_5_code 98 = .ok (.ireturn, 1) := by decide +kernel
theorem pn_11 : plainName "com/example/pathweave/pathweave/core/PairIndexLargestTwoPinLaw" = true := by first | (simp [plainName, overriddenIn]; done) | decide +kernel
def b11_43 (D : Hp) (ob0 : Nat) (i1 : Int32) (i3 : Int32) (i4 : Int32) (t0 : Int32) : Option (Int32 × Hp) :=
  if t0 = (0 : Int32) then (some ((0 : Int32), D)) else (if i1 = i3 then (some ((1 : Int32), D)) else (if i1 < i4 then ((rI D ob0 0 i1).bind fun x12 =>
  (rI D ob0 0 i4).bind fun x13 =>
  if x12 < x13 then (some ((1 : Int32), D)) else (some ((0 : Int32), D))) else ((rI D ob0 0 i1).bind fun x15 =>
  (rI D ob0 0 i4).bind fun x16 =>
  if x16 < x15 then (some ((0 : Int32), D)) else (some ((1 : Int32), D)))))
set_option maxRecDepth 65536 in
set_option maxHeartbeats 40000000 in
theorem bt11_43 {p : Program} {l : Launch} {e : Env} {s : State} {m : MethodId} {args : Array Value} {below : List Frame} {meth : Method} {c : Code} {Z : State} {a0 : Array Value} {n0 : Nat} {D' : Hp} {r : Int32} {T0 : State} {locs : List Loc} {cells slots : Nat} {h0 : Heap} {D : Hp} {ob0 : Nat} {i1 : Int32} {i2 : Int32} {i3 : Int32} {i4 : Int32} {t0 : Int32} (hw : ∀ d ∈ tables_1, d.before a0 Z = true) (hC : Cx p s m meth c Z method_5_code 6 (some .boolean) "com/example/pathweave/pathweave/core/PairIndexLargestTwoPinLaw" "ok") (X0 : Stand p l e ({ frames := 0, cells := 0, slots := 0, locals := 0 } : Room) s m args below meth c T0 locs cells slots) (e0 : T0.heap = h0) (O0 : Ow Kt1 Z h0 n0 D) (N0 : Fr n0 locs) (hcc : cells ≤ 0) (hss : slots ≤ 0) (hf : b11_43 D ob0 i1 i3 i4 t0 = some (r, D')) : Gl p e below s 0 0 (Qw Kt1 Z n0 (some (.int r)) D') (T0.setTop (mkF m 43 #[.val (.ref (n0 + ob0)), .val (.int i1), .val (.int i2), .val (.int i3), .val (.int i4), .unset] [(.int t0)])) := by
  obtain ⟨hx, hZ, hby, hml, hown, hnm, hret, hlk⟩ := id hC
  have hml : c.maxLocals = 6 := hml
  rw [b11_43] at hf
  refine Gl.on (B := T0.setTop (mkF m 47 #[.val (.ref (n0 + ob0)), .val (.int i1), .val (.int i2), .val (.int i3), .val (.int i4), .val (.int t0)] [(.int t0)])) (fun t k => ?_) ?_
  · show Steps p.tables e below (T0.setTop (mkF m 43 #[.val (.ref (n0 + ob0)), .val (.int i1), .val (.int i2), .val (.int i3), .val (.int i4), .unset] [(.int t0)])) _
    refine XS.istore X0.here hx rfl (hb hby d11_43) rfl (l' := #[.val (.ref (n0 + ob0)), .val (.int i1), .val (.int i2), .val (.int i3), .val (.int i4), .val (.int t0)]) rfl ?_
    show Steps p.tables e below (T0.setTop (mkF m 45 #[.val (.ref (n0 + ob0)), .val (.int i1), .val (.int i2), .val (.int i3), .val (.int i4), .val (.int t0)] [])) _
    refine XS.iload X0.here hx rfl (hb hby d11_45) rfl ?_
    exact k
  by_cases hc9 : t0 = (0 : Int32)
  · rw [if_pos hc9] at hf
    refine Gl.on (B := T0.setTop (mkF m 51 #[.val (.ref (n0 + ob0)), .val (.int i1), .val (.int i2), .val (.int i3), .val (.int i4), .val (.int t0)] [(.int (0 : Int32))])) (fun t k => ?_) ?_
    · show Steps p.tables e below (T0.setTop (mkF m 47 #[.val (.ref (n0 + ob0)), .val (.int i1), .val (.int i2), .val (.int i3), .val (.int i4), .val (.int t0)] [(.int t0)])) _
      refine XS.ifNo X0.here hx rfl (hb hby d11_47) rfl ((if0 _ _).trans (teq hc9).2) ?_
      show Steps p.tables e below (T0.setTop (mkF m 50 #[.val (.ref (n0 + ob0)), .val (.int i1), .val (.int i2), .val (.int i3), .val (.int i4), .val (.int t0)] [])) _
      refine XS.iconst X0.here hx rfl (hb hby d11_50) ?_
      exact k
    obtain ⟨rfl, rfl⟩ := own_inj hf
    exact Gl.outN X0 hx hlk (t := .boolean) hret (by simp) (hb hby d11_51) ⟨rfl, N0, by rw [e0]; exact O0⟩ (by show _ ≤ 0; omega) (by show _ ≤ 0; omega)
  · rw [if_neg hc9] at hf
    refine Gl.on (B := T0.setTop (mkF m 54 #[.val (.ref (n0 + ob0)), .val (.int i1), .val (.int i2), .val (.int i3), .val (.int i4), .val (.int t0)] [(.int i3), (.int i1)])) (fun t k => ?_) ?_
    · show Steps p.tables e below (T0.setTop (mkF m 47 #[.val (.ref (n0 + ob0)), .val (.int i1), .val (.int i2), .val (.int i3), .val (.int i4), .val (.int t0)] [(.int t0)])) _
      refine XS.ifYes X0.here hx rfl (pc0 := 47) (pc' := 52) rfl (hb hby d11_47) rfl ((if0 _ _).trans (feq hc9).2) (by decide) (by decide) ?_
      show Steps p.tables e below (T0.setTop (mkF m 52 #[.val (.ref (n0 + ob0)), .val (.int i1), .val (.int i2), .val (.int i3), .val (.int i4), .val (.int t0)] [])) _
      refine XS.iloadN X0.here hx rfl (hb hby d11_52) rfl ?_
      show Steps p.tables e below (T0.setTop (mkF m 53 #[.val (.ref (n0 + ob0)), .val (.int i1), .val (.int i2), .val (.int i3), .val (.int i4), .val (.int t0)] [(.int i1)])) _
      refine XS.iloadN X0.here hx rfl (hb hby d11_53) rfl ?_
      exact k
    by_cases hc10 : i1 = i3
    · rw [if_pos hc10] at hf
      refine Gl.on (B := T0.setTop (mkF m 58 #[.val (.ref (n0 + ob0)), .val (.int i1), .val (.int i2), .val (.int i3), .val (.int i4), .val (.int t0)] [(.int (1 : Int32))])) (fun t k => ?_) ?_
      · show Steps p.tables e below (T0.setTop (mkF m 54 #[.val (.ref (n0 + ob0)), .val (.int i1), .val (.int i2), .val (.int i3), .val (.int i4), .val (.int t0)] [(.int i3), (.int i1)])) _
        refine XS.icmpNo X0.here hx rfl (hb hby d11_54) rfl (teq hc10).2 ?_
        show Steps p.tables e below (T0.setTop (mkF m 57 #[.val (.ref (n0 + ob0)), .val (.int i1), .val (.int i2), .val (.int i3), .val (.int i4), .val (.int t0)] [])) _
        refine XS.iconst X0.here hx rfl (hb hby d11_57) ?_
        exact k
      obtain ⟨rfl, rfl⟩ := own_inj hf
      exact Gl.outN X0 hx hlk (t := .boolean) hret (by simp) (hb hby d11_58) ⟨rfl, N0, by rw [e0]; exact O0⟩ (by show _ ≤ 0; omega) (by show _ ≤ 0; omega)
    · rw [if_neg hc10] at hf
      refine Gl.on (B := T0.setTop (mkF m 62 #[.val (.ref (n0 + ob0)), .val (.int i1), .val (.int i2), .val (.int i3), .val (.int i4), .val (.int t0)] [(.int i4), (.int i1)])) (fun t k => ?_) ?_
      · show Steps p.tables e below (T0.setTop (mkF m 54 #[.val (.ref (n0 + ob0)), .val (.int i1), .val (.int i2), .val (.int i3), .val (.int i4), .val (.int t0)] [(.int i3), (.int i1)])) _
        refine XS.icmpYes X0.here hx rfl (pc0 := 54) (pc' := 59) rfl (hb hby d11_54) rfl (feq hc10).2 (by decide) (by decide) ?_
        show Steps p.tables e below (T0.setTop (mkF m 59 #[.val (.ref (n0 + ob0)), .val (.int i1), .val (.int i2), .val (.int i3), .val (.int i4), .val (.int t0)] [])) _
        refine XS.iloadN X0.here hx rfl (hb hby d11_59) rfl ?_
        show Steps p.tables e below (T0.setTop (mkF m 60 #[.val (.ref (n0 + ob0)), .val (.int i1), .val (.int i2), .val (.int i3), .val (.int i4), .val (.int t0)] [(.int i1)])) _
        refine XS.iload X0.here hx rfl (hb hby d11_60) rfl ?_
        exact k
      by_cases hc11 : i1 < i4
      · rw [if_pos hc11] at hf
        obtain ⟨x12, hx12, hf⟩ := own_bind hf
        obtain ⟨x13, hx13, hf⟩ := own_bind hf
        refine Gl.on (B := T0.setTop (mkF m 72 #[.val (.ref (n0 + ob0)), .val (.int i1), .val (.int i2), .val (.int i3), .val (.int i4), .val (.int t0)] [(.int x13), (.int x12)])) (fun t k => ?_) ?_
        · show Steps p.tables e below (T0.setTop (mkF m 62 #[.val (.ref (n0 + ob0)), .val (.int i1), .val (.int i2), .val (.int i3), .val (.int i4), .val (.int t0)] [(.int i4), (.int i1)])) _
          refine XS.icmpNo X0.here hx rfl (hb hby d11_62) rfl (tlt hc11).2.1 ?_
          show Steps p.tables e below (T0.setTop (mkF m 65 #[.val (.ref (n0 + ob0)), .val (.int i1), .val (.int i2), .val (.int i3), .val (.int i4), .val (.int t0)] [])) _
          refine XS.aloadN X0.here hx rfl (hb hby d11_65) rfl rfl ?_
          show Steps p.tables e below (T0.setTop (mkF m 66 #[.val (.ref (n0 + ob0)), .val (.int i1), .val (.int i2), .val (.int i3), .val (.int i4), .val (.int t0)] [(.ref (n0 + ob0))])) _
          refine XS.iloadN X0.here hx rfl (hb hby d11_66) rfl ?_
          show Steps p.tables e below (T0.setTop (mkF m 67 #[.val (.ref (n0 + ob0)), .val (.int i1), .val (.int i2), .val (.int i3), .val (.int i4), .val (.int t0)] [(.int i1), (.ref (n0 + ob0))])) _
          refine ldW X0 hx hZ e0 O0 hx12 rfl (g := (mkF m 67 #[.val (.ref (n0 + ob0)), .val (.int i1), .val (.int i2), .val (.int i3), .val (.int i4), .val (.int t0)] [(.int i1), (.ref (n0 + ob0))])) rfl rfl (hb hby d11_67) _ ?_
          show Steps p.tables e below (T0.setTop (mkF m 68 #[.val (.ref (n0 + ob0)), .val (.int i1), .val (.int i2), .val (.int i3), .val (.int i4), .val (.int t0)] [(.int x12)])) _
          refine XS.aloadN X0.here hx rfl (hb hby d11_68) rfl rfl ?_
          show Steps p.tables e below (T0.setTop (mkF m 69 #[.val (.ref (n0 + ob0)), .val (.int i1), .val (.int i2), .val (.int i3), .val (.int i4), .val (.int t0)] [(.ref (n0 + ob0)), (.int x12)])) _
          refine XS.iload X0.here hx rfl (hb hby d11_69) rfl ?_
          show Steps p.tables e below (T0.setTop (mkF m 71 #[.val (.ref (n0 + ob0)), .val (.int i1), .val (.int i2), .val (.int i3), .val (.int i4), .val (.int t0)] [(.int i4), (.ref (n0 + ob0)), (.int x12)])) _
          refine ldW X0 hx hZ e0 O0 hx13 rfl (g := (mkF m 71 #[.val (.ref (n0 + ob0)), .val (.int i1), .val (.int i2), .val (.int i3), .val (.int i4), .val (.int t0)] [(.int i4), (.ref (n0 + ob0)), (.int x12)])) rfl rfl (hb hby d11_71) _ ?_
          exact k
        by_cases hc14 : x12 < x13
        · rw [if_pos hc14] at hf
          refine Gl.on (B := T0.setTop (mkF m 98 #[.val (.ref (n0 + ob0)), .val (.int i1), .val (.int i2), .val (.int i3), .val (.int i4), .val (.int t0)] [(.int (1 : Int32))])) (fun t k => ?_) ?_
          · show Steps p.tables e below (T0.setTop (mkF m 72 #[.val (.ref (n0 + ob0)), .val (.int i1), .val (.int i2), .val (.int i3), .val (.int i4), .val (.int t0)] [(.int x13), (.int x12)])) _
            refine XS.icmpNo X0.here hx rfl (hb hby d11_72) rfl (tlt hc14).2.1 ?_
            show Steps p.tables e below (T0.setTop (mkF m 75 #[.val (.ref (n0 + ob0)), .val (.int i1), .val (.int i2), .val (.int i3), .val (.int i4), .val (.int t0)] [])) _
            refine XS.iconst X0.here hx rfl (hb hby d11_75) ?_
            show Steps p.tables e below (T0.setTop (mkF m 76 #[.val (.ref (n0 + ob0)), .val (.int i1), .val (.int i2), .val (.int i3), .val (.int i4), .val (.int t0)] [(.int (1 : Int32))])) _
            refine XS.goto X0.here hx rfl (pc0 := 76) (pc' := 98) rfl (hb hby d11_76) (by decide) (by decide) ?_
            exact k
          obtain ⟨rfl, rfl⟩ := own_inj hf
          exact Gl.outN X0 hx hlk (t := .boolean) hret (by simp) (hb hby d11_98) ⟨rfl, N0, by rw [e0]; exact O0⟩ (by show _ ≤ 0; omega) (by show _ ≤ 0; omega)
        · rw [if_neg hc14] at hf
          refine Gl.on (B := T0.setTop (mkF m 98 #[.val (.ref (n0 + ob0)), .val (.int i1), .val (.int i2), .val (.int i3), .val (.int i4), .val (.int t0)] [(.int (0 : Int32))])) (fun t k => ?_) ?_
          · show Steps p.tables e below (T0.setTop (mkF m 72 #[.val (.ref (n0 + ob0)), .val (.int i1), .val (.int i2), .val (.int i3), .val (.int i4), .val (.int t0)] [(.int x13), (.int x12)])) _
            refine XS.icmpYes X0.here hx rfl (pc0 := 72) (pc' := 79) rfl (hb hby d11_72) rfl (flt hc14).2.1 (by decide) (by decide) ?_
            show Steps p.tables e below (T0.setTop (mkF m 79 #[.val (.ref (n0 + ob0)), .val (.int i1), .val (.int i2), .val (.int i3), .val (.int i4), .val (.int t0)] [])) _
            refine XS.iconst X0.here hx rfl (hb hby d11_79) ?_
            show Steps p.tables e below (T0.setTop (mkF m 80 #[.val (.ref (n0 + ob0)), .val (.int i1), .val (.int i2), .val (.int i3), .val (.int i4), .val (.int t0)] [(.int (0 : Int32))])) _
            refine XS.goto X0.here hx rfl (pc0 := 80) (pc' := 98) rfl (hb hby d11_80) (by decide) (by decide) ?_
            exact k
          obtain ⟨rfl, rfl⟩ := own_inj hf
          exact Gl.outN X0 hx hlk (t := .boolean) hret (by simp) (hb hby d11_98) ⟨rfl, N0, by rw [e0]; exact O0⟩ (by show _ ≤ 0; omega) (by show _ ≤ 0; omega)
      · rw [if_neg hc11] at hf
        obtain ⟨x15, hx15, hf⟩ := own_bind hf
        obtain ⟨x16, hx16, hf⟩ := own_bind hf
        refine Gl.on (B := T0.setTop (mkF m 90 #[.val (.ref (n0 + ob0)), .val (.int i1), .val (.int i2), .val (.int i3), .val (.int i4), .val (.int t0)] [(.int x16), (.int x15)])) (fun t k => ?_) ?_
        · show Steps p.tables e below (T0.setTop (mkF m 62 #[.val (.ref (n0 + ob0)), .val (.int i1), .val (.int i2), .val (.int i3), .val (.int i4), .val (.int t0)] [(.int i4), (.int i1)])) _
          refine XS.icmpYes X0.here hx rfl (pc0 := 62) (pc' := 83) rfl (hb hby d11_62) rfl (flt hc11).2.1 (by decide) (by decide) ?_
          show Steps p.tables e below (T0.setTop (mkF m 83 #[.val (.ref (n0 + ob0)), .val (.int i1), .val (.int i2), .val (.int i3), .val (.int i4), .val (.int t0)] [])) _
          refine XS.aloadN X0.here hx rfl (hb hby d11_83) rfl rfl ?_
          show Steps p.tables e below (T0.setTop (mkF m 84 #[.val (.ref (n0 + ob0)), .val (.int i1), .val (.int i2), .val (.int i3), .val (.int i4), .val (.int t0)] [(.ref (n0 + ob0))])) _
          refine XS.iloadN X0.here hx rfl (hb hby d11_84) rfl ?_
          show Steps p.tables e below (T0.setTop (mkF m 85 #[.val (.ref (n0 + ob0)), .val (.int i1), .val (.int i2), .val (.int i3), .val (.int i4), .val (.int t0)] [(.int i1), (.ref (n0 + ob0))])) _
          refine ldW X0 hx hZ e0 O0 hx15 rfl (g := (mkF m 85 #[.val (.ref (n0 + ob0)), .val (.int i1), .val (.int i2), .val (.int i3), .val (.int i4), .val (.int t0)] [(.int i1), (.ref (n0 + ob0))])) rfl rfl (hb hby d11_85) _ ?_
          show Steps p.tables e below (T0.setTop (mkF m 86 #[.val (.ref (n0 + ob0)), .val (.int i1), .val (.int i2), .val (.int i3), .val (.int i4), .val (.int t0)] [(.int x15)])) _
          refine XS.aloadN X0.here hx rfl (hb hby d11_86) rfl rfl ?_
          show Steps p.tables e below (T0.setTop (mkF m 87 #[.val (.ref (n0 + ob0)), .val (.int i1), .val (.int i2), .val (.int i3), .val (.int i4), .val (.int t0)] [(.ref (n0 + ob0)), (.int x15)])) _
          refine XS.iload X0.here hx rfl (hb hby d11_87) rfl ?_
          show Steps p.tables e below (T0.setTop (mkF m 89 #[.val (.ref (n0 + ob0)), .val (.int i1), .val (.int i2), .val (.int i3), .val (.int i4), .val (.int t0)] [(.int i4), (.ref (n0 + ob0)), (.int x15)])) _
          refine ldW X0 hx hZ e0 O0 hx16 rfl (g := (mkF m 89 #[.val (.ref (n0 + ob0)), .val (.int i1), .val (.int i2), .val (.int i3), .val (.int i4), .val (.int t0)] [(.int i4), (.ref (n0 + ob0)), (.int x15)])) rfl rfl (hb hby d11_89) _ ?_
          exact k
        by_cases hc17 : x16 < x15
        · rw [if_pos hc17] at hf
          refine Gl.on (B := T0.setTop (mkF m 98 #[.val (.ref (n0 + ob0)), .val (.int i1), .val (.int i2), .val (.int i3), .val (.int i4), .val (.int t0)] [(.int (0 : Int32))])) (fun t k => ?_) ?_
          · show Steps p.tables e below (T0.setTop (mkF m 90 #[.val (.ref (n0 + ob0)), .val (.int i1), .val (.int i2), .val (.int i3), .val (.int i4), .val (.int t0)] [(.int x16), (.int x15)])) _
            refine XS.icmpYes X0.here hx rfl (pc0 := 90) (pc' := 97) rfl (hb hby d11_90) rfl (tlt hc17).2.2.1 (by decide) (by decide) ?_
            show Steps p.tables e below (T0.setTop (mkF m 97 #[.val (.ref (n0 + ob0)), .val (.int i1), .val (.int i2), .val (.int i3), .val (.int i4), .val (.int t0)] [])) _
            refine XS.iconst X0.here hx rfl (hb hby d11_97) ?_
            exact k
          obtain ⟨rfl, rfl⟩ := own_inj hf
          exact Gl.outN X0 hx hlk (t := .boolean) hret (by simp) (hb hby d11_98) ⟨rfl, N0, by rw [e0]; exact O0⟩ (by show _ ≤ 0; omega) (by show _ ≤ 0; omega)
        · rw [if_neg hc17] at hf
          refine Gl.on (B := T0.setTop (mkF m 98 #[.val (.ref (n0 + ob0)), .val (.int i1), .val (.int i2), .val (.int i3), .val (.int i4), .val (.int t0)] [(.int (1 : Int32))])) (fun t k => ?_) ?_
          · show Steps p.tables e below (T0.setTop (mkF m 90 #[.val (.ref (n0 + ob0)), .val (.int i1), .val (.int i2), .val (.int i3), .val (.int i4), .val (.int t0)] [(.int x16), (.int x15)])) _
            refine XS.icmpNo X0.here hx rfl (hb hby d11_90) rfl (flt hc17).2.2.1 ?_
            show Steps p.tables e below (T0.setTop (mkF m 93 #[.val (.ref (n0 + ob0)), .val (.int i1), .val (.int i2), .val (.int i3), .val (.int i4), .val (.int t0)] [])) _
            refine XS.iconst X0.here hx rfl (hb hby d11_93) ?_
            show Steps p.tables e below (T0.setTop (mkF m 94 #[.val (.ref (n0 + ob0)), .val (.int i1), .val (.int i2), .val (.int i3), .val (.int i4), .val (.int t0)] [(.int (1 : Int32))])) _
            refine XS.goto X0.here hx rfl (pc0 := 94) (pc' := 98) rfl (hb hby d11_94) (by decide) (by decide) ?_
            exact k
          obtain ⟨rfl, rfl⟩ := own_inj hf
          exact Gl.outN X0 hx hlk (t := .boolean) hret (by simp) (hb hby d11_98) ⟨rfl, N0, by rw [e0]; exact O0⟩ (by show _ ≤ 0; omega) (by show _ ≤ 0; omega)
def f11 (D : Hp) (ob0 : Nat) (i1 : Int32) (i2 : Int32) (i3 : Int32) (i4 : Int32) : Option (Int32 × Hp) :=
  if i1 < i2 then (if i1 < i3 then ((rI D ob0 0 i1).bind fun x3 =>
  (rI D ob0 0 i3).bind fun x4 =>
  if x3 < x4 then (b11_43 D ob0 i1 i3 i4 (1 : Int32)) else (b11_43 D ob0 i1 i3 i4 (0 : Int32))) else ((rI D ob0 0 i1).bind fun x6 =>
  (rI D ob0 0 i3).bind fun x7 =>
  if x7 < x6 then (b11_43 D ob0 i1 i3 i4 (0 : Int32)) else (b11_43 D ob0 i1 i3 i4 (1 : Int32)))) else (some ((1 : Int32), D))
theorem ef_11 (m : MethodId) (n0 : Nat) (ob0 : Nat) (i1 : Int32) (i2 : Int32) (i3 : Int32) (i4 : Int32) : entryFrame m #[(.ref (n0 + ob0)), (.int i1), (.int i2), (.int i3), (.int i4)] 6 = mkF m 0 #[.val (.ref (n0 + ob0)), .val (.int i1), .val (.int i2), .val (.int i3), .val (.int i4), .unset] [] := by first | (simp [entryFrame, mkF, argsToLocals, Value.category]; done) | rfl
set_option maxRecDepth 65536 in
set_option maxHeartbeats 40000000 in
theorem ct11 {l : Launch} {Z : State} {a0 : Array Value} (hw : ∀ d ∈ tables_1, d.before a0 Z = true) {n0 : Nat} {D D' : Hp} {ob0 : Nat} {i1 : Int32} {i2 : Int32} {i3 : Int32} {i4 : Int32} {r : Int32} (hf : f11 D ob0 i1 i2 i3 i4 = some (r, D')) :
    Ct Kt1 l Z (⟨"com/example/pathweave/pathweave/core/PairIndexLargestTwoPinLaw", "ok", "([IIIII)Z"⟩ : MethodName) (.code (⟨"com/example/pathweave/pathweave/core/PairIndexLargestTwoPinLaw", "ok", "([IIIII)Z"⟩ : MethodName) method_5_code 6 (some .boolean)) ({ frames := 0, cells := 0, slots := 0, locals := 0 } : Room) n0 D #[(.ref (n0 + ob0)), (.int i1), (.int i2), (.int i3), (.int i4)] (some (.int r)) D' := by
  refine Ct.of (plainFor_of_name pn_11) ?_
  intro p e s m below meth c T0 h0 hC X0 e0 O0
  obtain ⟨hx, hZ, hby, hml, hown, hnm, hret, hlk⟩ := id hC
  have hml : c.maxLocals = 6 := hml
  have hown : s.vm.findClass "com/example/pathweave/pathweave/core/PairIndexLargestTwoPinLaw" = some m.cls := hown
  have hnm : meth.name = "ok" := hnm
  have N0 := Fr.nil n0
  refine Gl.on (fun t k => castTop (ef_11 m n0 ob0 i1 i2 i3 i4) k) ?_
  rw [f11] at hf
  refine Gl.on (B := T0.setTop (mkF m 2 #[.val (.ref (n0 + ob0)), .val (.int i1), .val (.int i2), .val (.int i3), .val (.int i4), .unset] [(.int i2), (.int i1)])) (fun t k => ?_) ?_
  · show Steps p.tables e below (T0.setTop (mkF m 0 #[.val (.ref (n0 + ob0)), .val (.int i1), .val (.int i2), .val (.int i3), .val (.int i4), .unset] [])) _
    refine XS.iloadN X0.here hx rfl (hb hby d11_0) rfl ?_
    show Steps p.tables e below (T0.setTop (mkF m 1 #[.val (.ref (n0 + ob0)), .val (.int i1), .val (.int i2), .val (.int i3), .val (.int i4), .unset] [(.int i1)])) _
    refine XS.iloadN X0.here hx rfl (hb hby d11_1) rfl ?_
    exact k
  by_cases hc1 : i1 < i2
  · rw [if_pos hc1] at hf
    refine Gl.on (B := T0.setTop (mkF m 9 #[.val (.ref (n0 + ob0)), .val (.int i1), .val (.int i2), .val (.int i3), .val (.int i4), .unset] [(.int i3), (.int i1)])) (fun t k => ?_) ?_
    · show Steps p.tables e below (T0.setTop (mkF m 2 #[.val (.ref (n0 + ob0)), .val (.int i1), .val (.int i2), .val (.int i3), .val (.int i4), .unset] [(.int i2), (.int i1)])) _
      refine XS.icmpYes X0.here hx rfl (pc0 := 2) (pc' := 7) rfl (hb hby d11_2) rfl (tlt hc1).1 (by decide) (by decide) ?_
      show Steps p.tables e below (T0.setTop (mkF m 7 #[.val (.ref (n0 + ob0)), .val (.int i1), .val (.int i2), .val (.int i3), .val (.int i4), .unset] [])) _
      refine XS.iloadN X0.here hx rfl (hb hby d11_7) rfl ?_
      show Steps p.tables e below (T0.setTop (mkF m 8 #[.val (.ref (n0 + ob0)), .val (.int i1), .val (.int i2), .val (.int i3), .val (.int i4), .unset] [(.int i1)])) _
      refine XS.iloadN X0.here hx rfl (hb hby d11_8) rfl ?_
      exact k
    by_cases hc2 : i1 < i3
    · rw [if_pos hc2] at hf
      obtain ⟨x3, hx3, hf⟩ := own_bind hf
      obtain ⟨x4, hx4, hf⟩ := own_bind hf
      refine Gl.on (B := T0.setTop (mkF m 18 #[.val (.ref (n0 + ob0)), .val (.int i1), .val (.int i2), .val (.int i3), .val (.int i4), .unset] [(.int x4), (.int x3)])) (fun t k => ?_) ?_
      · show Steps p.tables e below (T0.setTop (mkF m 9 #[.val (.ref (n0 + ob0)), .val (.int i1), .val (.int i2), .val (.int i3), .val (.int i4), .unset] [(.int i3), (.int i1)])) _
        refine XS.icmpNo X0.here hx rfl (hb hby d11_9) rfl (tlt hc2).2.1 ?_
        show Steps p.tables e below (T0.setTop (mkF m 12 #[.val (.ref (n0 + ob0)), .val (.int i1), .val (.int i2), .val (.int i3), .val (.int i4), .unset] [])) _
        refine XS.aloadN X0.here hx rfl (hb hby d11_12) rfl rfl ?_
        show Steps p.tables e below (T0.setTop (mkF m 13 #[.val (.ref (n0 + ob0)), .val (.int i1), .val (.int i2), .val (.int i3), .val (.int i4), .unset] [(.ref (n0 + ob0))])) _
        refine XS.iloadN X0.here hx rfl (hb hby d11_13) rfl ?_
        show Steps p.tables e below (T0.setTop (mkF m 14 #[.val (.ref (n0 + ob0)), .val (.int i1), .val (.int i2), .val (.int i3), .val (.int i4), .unset] [(.int i1), (.ref (n0 + ob0))])) _
        refine ldW X0 hx hZ e0 O0 hx3 rfl (g := (mkF m 14 #[.val (.ref (n0 + ob0)), .val (.int i1), .val (.int i2), .val (.int i3), .val (.int i4), .unset] [(.int i1), (.ref (n0 + ob0))])) rfl rfl (hb hby d11_14) _ ?_
        show Steps p.tables e below (T0.setTop (mkF m 15 #[.val (.ref (n0 + ob0)), .val (.int i1), .val (.int i2), .val (.int i3), .val (.int i4), .unset] [(.int x3)])) _
        refine XS.aloadN X0.here hx rfl (hb hby d11_15) rfl rfl ?_
        show Steps p.tables e below (T0.setTop (mkF m 16 #[.val (.ref (n0 + ob0)), .val (.int i1), .val (.int i2), .val (.int i3), .val (.int i4), .unset] [(.ref (n0 + ob0)), (.int x3)])) _
        refine XS.iloadN X0.here hx rfl (hb hby d11_16) rfl ?_
        show Steps p.tables e below (T0.setTop (mkF m 17 #[.val (.ref (n0 + ob0)), .val (.int i1), .val (.int i2), .val (.int i3), .val (.int i4), .unset] [(.int i3), (.ref (n0 + ob0)), (.int x3)])) _
        refine ldW X0 hx hZ e0 O0 hx4 rfl (g := (mkF m 17 #[.val (.ref (n0 + ob0)), .val (.int i1), .val (.int i2), .val (.int i3), .val (.int i4), .unset] [(.int i3), (.ref (n0 + ob0)), (.int x3)])) rfl rfl (hb hby d11_17) _ ?_
        exact k
      by_cases hc5 : x3 < x4
      · rw [if_pos hc5] at hf
        refine Gl.on (B := T0.setTop (mkF m 43 #[.val (.ref (n0 + ob0)), .val (.int i1), .val (.int i2), .val (.int i3), .val (.int i4), .unset] [(.int (1 : Int32))])) (fun t k => ?_) ?_
        · show Steps p.tables e below (T0.setTop (mkF m 18 #[.val (.ref (n0 + ob0)), .val (.int i1), .val (.int i2), .val (.int i3), .val (.int i4), .unset] [(.int x4), (.int x3)])) _
          refine XS.icmpNo X0.here hx rfl (hb hby d11_18) rfl (tlt hc5).2.1 ?_
          show Steps p.tables e below (T0.setTop (mkF m 21 #[.val (.ref (n0 + ob0)), .val (.int i1), .val (.int i2), .val (.int i3), .val (.int i4), .unset] [])) _
          refine XS.iconst X0.here hx rfl (hb hby d11_21) ?_
          show Steps p.tables e below (T0.setTop (mkF m 22 #[.val (.ref (n0 + ob0)), .val (.int i1), .val (.int i2), .val (.int i3), .val (.int i4), .unset] [(.int (1 : Int32))])) _
          refine XS.goto X0.here hx rfl (pc0 := 22) (pc' := 43) rfl (hb hby d11_22) (by decide) (by decide) ?_
          exact k
        exact bt11_43 hw hC X0 e0 O0 N0 (by omega) (by omega) hf
      · rw [if_neg hc5] at hf
        refine Gl.on (B := T0.setTop (mkF m 43 #[.val (.ref (n0 + ob0)), .val (.int i1), .val (.int i2), .val (.int i3), .val (.int i4), .unset] [(.int (0 : Int32))])) (fun t k => ?_) ?_
        · show Steps p.tables e below (T0.setTop (mkF m 18 #[.val (.ref (n0 + ob0)), .val (.int i1), .val (.int i2), .val (.int i3), .val (.int i4), .unset] [(.int x4), (.int x3)])) _
          refine XS.icmpYes X0.here hx rfl (pc0 := 18) (pc' := 25) rfl (hb hby d11_18) rfl (flt hc5).2.1 (by decide) (by decide) ?_
          show Steps p.tables e below (T0.setTop (mkF m 25 #[.val (.ref (n0 + ob0)), .val (.int i1), .val (.int i2), .val (.int i3), .val (.int i4), .unset] [])) _
          refine XS.iconst X0.here hx rfl (hb hby d11_25) ?_
          show Steps p.tables e below (T0.setTop (mkF m 26 #[.val (.ref (n0 + ob0)), .val (.int i1), .val (.int i2), .val (.int i3), .val (.int i4), .unset] [(.int (0 : Int32))])) _
          refine XS.goto X0.here hx rfl (pc0 := 26) (pc' := 43) rfl (hb hby d11_26) (by decide) (by decide) ?_
          exact k
        exact bt11_43 hw hC X0 e0 O0 N0 (by omega) (by omega) hf
    · rw [if_neg hc2] at hf
      obtain ⟨x6, hx6, hf⟩ := own_bind hf
      obtain ⟨x7, hx7, hf⟩ := own_bind hf
      refine Gl.on (B := T0.setTop (mkF m 35 #[.val (.ref (n0 + ob0)), .val (.int i1), .val (.int i2), .val (.int i3), .val (.int i4), .unset] [(.int x7), (.int x6)])) (fun t k => ?_) ?_
      · show Steps p.tables e below (T0.setTop (mkF m 9 #[.val (.ref (n0 + ob0)), .val (.int i1), .val (.int i2), .val (.int i3), .val (.int i4), .unset] [(.int i3), (.int i1)])) _
        refine XS.icmpYes X0.here hx rfl (pc0 := 9) (pc' := 29) rfl (hb hby d11_9) rfl (flt hc2).2.1 (by decide) (by decide) ?_
        show Steps p.tables e below (T0.setTop (mkF m 29 #[.val (.ref (n0 + ob0)), .val (.int i1), .val (.int i2), .val (.int i3), .val (.int i4), .unset] [])) _
        refine XS.aloadN X0.here hx rfl (hb hby d11_29) rfl rfl ?_
        show Steps p.tables e below (T0.setTop (mkF m 30 #[.val (.ref (n0 + ob0)), .val (.int i1), .val (.int i2), .val (.int i3), .val (.int i4), .unset] [(.ref (n0 + ob0))])) _
        refine XS.iloadN X0.here hx rfl (hb hby d11_30) rfl ?_
        show Steps p.tables e below (T0.setTop (mkF m 31 #[.val (.ref (n0 + ob0)), .val (.int i1), .val (.int i2), .val (.int i3), .val (.int i4), .unset] [(.int i1), (.ref (n0 + ob0))])) _
        refine ldW X0 hx hZ e0 O0 hx6 rfl (g := (mkF m 31 #[.val (.ref (n0 + ob0)), .val (.int i1), .val (.int i2), .val (.int i3), .val (.int i4), .unset] [(.int i1), (.ref (n0 + ob0))])) rfl rfl (hb hby d11_31) _ ?_
        show Steps p.tables e below (T0.setTop (mkF m 32 #[.val (.ref (n0 + ob0)), .val (.int i1), .val (.int i2), .val (.int i3), .val (.int i4), .unset] [(.int x6)])) _
        refine XS.aloadN X0.here hx rfl (hb hby d11_32) rfl rfl ?_
        show Steps p.tables e below (T0.setTop (mkF m 33 #[.val (.ref (n0 + ob0)), .val (.int i1), .val (.int i2), .val (.int i3), .val (.int i4), .unset] [(.ref (n0 + ob0)), (.int x6)])) _
        refine XS.iloadN X0.here hx rfl (hb hby d11_33) rfl ?_
        show Steps p.tables e below (T0.setTop (mkF m 34 #[.val (.ref (n0 + ob0)), .val (.int i1), .val (.int i2), .val (.int i3), .val (.int i4), .unset] [(.int i3), (.ref (n0 + ob0)), (.int x6)])) _
        refine ldW X0 hx hZ e0 O0 hx7 rfl (g := (mkF m 34 #[.val (.ref (n0 + ob0)), .val (.int i1), .val (.int i2), .val (.int i3), .val (.int i4), .unset] [(.int i3), (.ref (n0 + ob0)), (.int x6)])) rfl rfl (hb hby d11_34) _ ?_
        exact k
      by_cases hc8 : x7 < x6
      · rw [if_pos hc8] at hf
        refine Gl.on (B := T0.setTop (mkF m 43 #[.val (.ref (n0 + ob0)), .val (.int i1), .val (.int i2), .val (.int i3), .val (.int i4), .unset] [(.int (0 : Int32))])) (fun t k => ?_) ?_
        · show Steps p.tables e below (T0.setTop (mkF m 35 #[.val (.ref (n0 + ob0)), .val (.int i1), .val (.int i2), .val (.int i3), .val (.int i4), .unset] [(.int x7), (.int x6)])) _
          refine XS.icmpYes X0.here hx rfl (pc0 := 35) (pc' := 42) rfl (hb hby d11_35) rfl (tlt hc8).2.2.1 (by decide) (by decide) ?_
          show Steps p.tables e below (T0.setTop (mkF m 42 #[.val (.ref (n0 + ob0)), .val (.int i1), .val (.int i2), .val (.int i3), .val (.int i4), .unset] [])) _
          refine XS.iconst X0.here hx rfl (hb hby d11_42) ?_
          exact k
        exact bt11_43 hw hC X0 e0 O0 N0 (by omega) (by omega) hf
      · rw [if_neg hc8] at hf
        refine Gl.on (B := T0.setTop (mkF m 43 #[.val (.ref (n0 + ob0)), .val (.int i1), .val (.int i2), .val (.int i3), .val (.int i4), .unset] [(.int (1 : Int32))])) (fun t k => ?_) ?_
        · show Steps p.tables e below (T0.setTop (mkF m 35 #[.val (.ref (n0 + ob0)), .val (.int i1), .val (.int i2), .val (.int i3), .val (.int i4), .unset] [(.int x7), (.int x6)])) _
          refine XS.icmpNo X0.here hx rfl (hb hby d11_35) rfl (flt hc8).2.2.1 ?_
          show Steps p.tables e below (T0.setTop (mkF m 38 #[.val (.ref (n0 + ob0)), .val (.int i1), .val (.int i2), .val (.int i3), .val (.int i4), .unset] [])) _
          refine XS.iconst X0.here hx rfl (hb hby d11_38) ?_
          show Steps p.tables e below (T0.setTop (mkF m 39 #[.val (.ref (n0 + ob0)), .val (.int i1), .val (.int i2), .val (.int i3), .val (.int i4), .unset] [(.int (1 : Int32))])) _
          refine XS.goto X0.here hx rfl (pc0 := 39) (pc' := 43) rfl (hb hby d11_39) (by decide) (by decide) ?_
          exact k
        exact bt11_43 hw hC X0 e0 O0 N0 (by omega) (by omega) hf
  · rw [if_neg hc1] at hf
    refine Gl.on (B := T0.setTop (mkF m 6 #[.val (.ref (n0 + ob0)), .val (.int i1), .val (.int i2), .val (.int i3), .val (.int i4), .unset] [(.int (1 : Int32))])) (fun t k => ?_) ?_
    · show Steps p.tables e below (T0.setTop (mkF m 2 #[.val (.ref (n0 + ob0)), .val (.int i1), .val (.int i2), .val (.int i3), .val (.int i4), .unset] [(.int i2), (.int i1)])) _
      refine XS.icmpNo X0.here hx rfl (hb hby d11_2) rfl (flt hc1).1 ?_
      show Steps p.tables e below (T0.setTop (mkF m 5 #[.val (.ref (n0 + ob0)), .val (.int i1), .val (.int i2), .val (.int i3), .val (.int i4), .unset] [])) _
      refine XS.iconst X0.here hx rfl (hb hby d11_5) ?_
      exact k
    obtain ⟨rfl, rfl⟩ := own_inj hf
    exact Gl.outN X0 hx hlk (t := .boolean) hret (by simp) (hb hby d11_6) ⟨rfl, N0, by rw [e0]; exact O0⟩ (by show _ ≤ 0; omega) (by show _ ≤ 0; omega)
theorem pd_4 : parseMethodDescriptor "(IZ)I" = some ⟨[.int, .boolean], some .int⟩ := by decide +kernel
theorem pd_5 : parseMethodDescriptor "(I[I)[I" = some ⟨[.int, (.array .int)], some (.array .int)⟩ := by decide +kernel
theorem pd_6 : parseMethodDescriptor "([I)V" = some ⟨[(.array .int)], none⟩ := by decide +kernel
theorem pd_7 : parseMethodDescriptor "()[I" = some ⟨[], some (.array .int)⟩ := by decide +kernel
theorem pd_8 : parseMethodDescriptor "([IIIII)Z" = some ⟨[(.array .int), .int, .int, .int, .int], some .boolean⟩ := by decide +kernel
theorem pn_0 : plainName "com/example/pathweave/pathweave/core/PairIndexLargestTwoPinLaw" = true := by first | (simp [plainName, overriddenIn]; done) | decide +kernel
def b0_20 (D : Hp) (i0 : Int32) (i1 : Int32) (i2 : Int32) (i3 : Int32) (i4 : Int32) (i6 : Int32) (t0 : Int32) : Option (Int32 × Hp) :=
  own_let (D.length) fun a3 => (nA D 0 (5 : Int32) 5 (.int (0 : Int32))).bind fun D3 =>
  (f1 D3 i0 t0).bind fun q4 => own_let q4.1 fun x5 => own_let q4.2 fun D4 =>
  (wV D4 a3 0 (0 : Int32) (.int x5)).bind fun D6 =>
  (f1 D6 i1 t0).bind fun q7 => own_let q7.1 fun x8 => own_let q7.2 fun D7 =>
  (wV D7 a3 0 (1 : Int32) (.int x8)).bind fun D9 =>
  (f1 D9 i2 t0).bind fun q10 => own_let q10.1 fun x11 => own_let q10.2 fun D10 =>
  (wV D10 a3 0 (2 : Int32) (.int x11)).bind fun D12 =>
  (f1 D12 i3 t0).bind fun q13 => own_let q13.1 fun x14 => own_let q13.2 fun D13 =>
  (wV D13 a3 0 (3 : Int32) (.int x14)).bind fun D15 =>
  (f1 D15 i4 t0).bind fun q16 => own_let q16.1 fun x17 => own_let q16.2 fun D16 =>
  (wV D16 a3 0 (4 : Int32) (.int x17)).bind fun D18 =>
  (f2 D18 i6 a3).bind fun q19 => own_let q19.1 fun x20 => own_let q19.2 fun D19 =>
  own_let (D19.length) fun a21 => own_let (D19 ++ [(1, [.null, .null, .null, (.int (0 : Int32))])]) fun D21 =>
  (f3 D21 a21 x20).bind fun D22 =>
  (ck D22 a21 1).bind fun u24 => (f10 D22 a21).bind fun q23 => own_let q23.1 fun x25 => own_let q23.2 fun D23 =>
  (lA D23 x25 0).bind fun x26 =>
  if x26 = (2 : Int32) then ((rI D23 x25 0 (0 : Int32)).bind fun x28 =>
  (rI D23 x25 0 (1 : Int32)).bind fun x29 =>
  if x28 < (0 : Int32) then (some ((0 : Int32), D23)) else (if x28 < i6 then (if x29 < (0 : Int32) then (some ((0 : Int32), D23)) else (if x29 < i6 then (if x28 = x29 then (some ((0 : Int32), D23)) else ((f11 D23 a3 (0 : Int32) i6 x28 x29).bind fun q35 => own_let q35.1 fun x36 => own_let q35.2 fun D35 =>
  if x36 = (0 : Int32) then (some ((0 : Int32), D35)) else ((f11 D35 a3 (1 : Int32) i6 x28 x29).bind fun q38 => own_let q38.1 fun x39 => own_let q38.2 fun D38 =>
  if x39 = (0 : Int32) then (some ((0 : Int32), D38)) else ((f11 D38 a3 (2 : Int32) i6 x28 x29).bind fun q41 => own_let q41.1 fun x42 => own_let q41.2 fun D41 =>
  if x42 = (0 : Int32) then (some ((0 : Int32), D41)) else ((f11 D41 a3 (3 : Int32) i6 x28 x29).bind fun q44 => own_let q44.1 fun x45 => own_let q44.2 fun D44 =>
  if x45 = (0 : Int32) then (some ((0 : Int32), D44)) else ((f11 D44 a3 (4 : Int32) i6 x28 x29).bind fun q47 => own_let q47.1 fun x48 => own_let q47.2 fun D47 =>
  if x48 = (0 : Int32) then (some ((0 : Int32), D47)) else (some ((1 : Int32), D47)))))))) else (some ((0 : Int32), D23)))) else (some ((0 : Int32), D23)))) else (some ((0 : Int32), D23))
set_option maxRecDepth 65536 in
set_option maxHeartbeats 40000000 in
theorem bt0_20 {p : Program} {l : Launch} {e : Env} {s : State} {m : MethodId} {args : Array Value} {below : List Frame} {meth : Method} {c : Code} {Z : State} {a0 : Array Value} {n0 : Nat} {D' : Hp} {r : Int32} {T0 : State} {locs : List Loc} {cells slots : Nat} {h0 : Heap} {D : Hp} {i0 : Int32} {i1 : Int32} {i2 : Int32} {i3 : Int32} {i4 : Int32} {i5 : Int32} {i6 : Int32} {t0 : Int32} (hw : ∀ d ∈ tables_1, d.before a0 Z = true) (hC : Cx p s m meth c Z code maxLocals ret "com/example/pathweave/pathweave/core/PairIndexLargestTwoPinLaw" "law") (X0 : Stand p l e room_1 s m args below meth c T0 locs cells slots) (e0 : T0.heap = h0) (O0 : Ow Kt1 Z h0 n0 D) (N0 : Fr n0 locs) (hcc : cells ≤ 0) (hss : slots ≤ 0) (hf : b0_20 D i0 i1 i2 i3 i4 i6 t0 = some (r, D')) : Gl p e below s 24 128 (Qw Kt1 Z n0 (some (.int r)) D') (T0.setTop (mkF m 20 #[.val (.int i0), .val (.int i1), .val (.int i2), .val (.int i3), .val (.int i4), .val (.int i5), .val (.int i6), .unset, .unset, .unset, .unset, .unset, .unset, .unset] [(.int t0)])) := by
  obtain ⟨hx, hZ, hby, hml, hown, hnm, hret, hlk⟩ := id hC
  have hml : c.maxLocals = 14 := hml
  rw [b0_20] at hf
  obtain ⟨a3, ha3, hf⟩ := own_letE hf
  obtain ⟨D3, hD3, hf⟩ := own_bind hf
  obtain ⟨T3, h3, X3, e3, O3, st3⟩ := newAW X0 hx hZ (aty := .int) (hw _ (List.mem_of_getElem? (i := 0) rfl)) e0 O0 rfl rfl hD3 (g := (mkF m 23 #[.val (.int i0), .val (.int i1), .val (.int i2), .val (.int i3), .val (.int i4), .val (.int i5), .val (.int i6), .val (.int t0), .unset, .unset, .unset, .unset, .unset, .unset] [(.int (5 : Int32))])) rfl (hb hby at_23) rfl (by decide) (by show _ + 1 ≤ 24; omega) (by show _ + 5 ≤ 128; omega)
  rw [ha3] at st3
  obtain ⟨⟨x5, D4⟩, hq4, hf⟩ := own_bind hf
  obtain ⟨_, rfl, hf⟩ := own_letE hf
  obtain ⟨_, rfl, hf⟩ := own_letE hf
  obtain ⟨T4, h4, L4, X4, e4, O4, N4, st4⟩ := callSW X3 hx hZ (y := (⟨"com/example/pathweave/pathweave/core/PairIndexLargestTwoPinLaw", "size", "(IZ)I"⟩ : MethodName)) hown (hw _ (List.mem_of_getElem? (i := 1) rfl)) (hw _ (List.mem_of_getElem? (i := 2) rfl)) (hw _ (List.mem_of_getElem? (i := 3) rfl)) (hw _ (List.mem_of_getElem? (i := 4) rfl)) (by decide) e3 O3 N0 (as' := [(.int i0), (.int t0)]) (ct1 hw hq4) (W := 3) (kc := 0) (ks := 0) rfl rfl (by decide) (by decide) (g := (mkF m 30 #[.val (.int i0), .val (.int i1), .val (.int i2), .val (.int i3), .val (.int i4), .val (.int i5), .val (.int i6), .val (.int t0), .unset, .unset, .unset, .unset, .unset, .unset] [(.int t0), (.int i0), (.int (0 : Int32)), (.ref (n0 + a3)), (.ref (n0 + a3))])) rfl (by rw [hml]; rfl) (rest := [(.int (0 : Int32)), (.ref (n0 + a3)), (.ref (n0 + a3))]) (lenOf pd_4 rfl) rfl (by show 2 * 0 + _ ≤ _; exact Nat.le_of_eq rfl) (hb hby at_30) (by show _ + 0 ≤ 24; omega) (by show _ + 0 ≤ 128; omega)
  obtain ⟨D6, hq6, hf⟩ := own_bind hf
  obtain ⟨T6, h6, L6, X6, e6, O6, N6, st6⟩ := stIW X4 hx hZ e4 O4 N4 hq6 rfl (g := (mkF m 33 #[.val (.int i0), .val (.int i1), .val (.int i2), .val (.int i3), .val (.int i4), .val (.int i5), .val (.int i6), .val (.int t0), .unset, .unset, .unset, .unset, .unset, .unset] [(.int x5), (.int (0 : Int32)), (.ref (n0 + a3)), (.ref (n0 + a3))])) rfl rfl (hb hby at_33)
  obtain ⟨⟨x8, D7⟩, hq7, hf⟩ := own_bind hf
  obtain ⟨_, rfl, hf⟩ := own_letE hf
  obtain ⟨_, rfl, hf⟩ := own_letE hf
  obtain ⟨T7, h7, L7, X7, e7, O7, N7, st7⟩ := callSW X6 hx hZ (y := (⟨"com/example/pathweave/pathweave/core/PairIndexLargestTwoPinLaw", "size", "(IZ)I"⟩ : MethodName)) hown (hw _ (List.mem_of_getElem? (i := 1) rfl)) (hw _ (List.mem_of_getElem? (i := 2) rfl)) (hw _ (List.mem_of_getElem? (i := 3) rfl)) (hw _ (List.mem_of_getElem? (i := 4) rfl)) (by decide) e6 O6 N6 (as' := [(.int i1), (.int t0)]) (ct1 hw hq7) (W := 3) (kc := 0) (ks := 0) rfl rfl (by decide) (by decide) (g := (mkF m 39 #[.val (.int i0), .val (.int i1), .val (.int i2), .val (.int i3), .val (.int i4), .val (.int i5), .val (.int i6), .val (.int t0), .unset, .unset, .unset, .unset, .unset, .unset] [(.int t0), (.int i1), (.int (1 : Int32)), (.ref (n0 + a3)), (.ref (n0 + a3))])) rfl (by rw [hml]; rfl) (rest := [(.int (1 : Int32)), (.ref (n0 + a3)), (.ref (n0 + a3))]) (lenOf pd_4 rfl) rfl (by show 2 * 0 + _ ≤ _; exact Nat.le_of_eq rfl) (hb hby at_39) (by show _ + 0 ≤ 24; omega) (by show _ + 0 ≤ 128; omega)
  obtain ⟨D9, hq9, hf⟩ := own_bind hf
  obtain ⟨T9, h9, L9, X9, e9, O9, N9, st9⟩ := stIW X7 hx hZ e7 O7 N7 hq9 rfl (g := (mkF m 42 #[.val (.int i0), .val (.int i1), .val (.int i2), .val (.int i3), .val (.int i4), .val (.int i5), .val (.int i6), .val (.int t0), .unset, .unset, .unset, .unset, .unset, .unset] [(.int x8), (.int (1 : Int32)), (.ref (n0 + a3)), (.ref (n0 + a3))])) rfl rfl (hb hby at_42)
  obtain ⟨⟨x11, D10⟩, hq10, hf⟩ := own_bind hf
  obtain ⟨_, rfl, hf⟩ := own_letE hf
  obtain ⟨_, rfl, hf⟩ := own_letE hf
  obtain ⟨T10, h10, L10, X10, e10, O10, N10, st10⟩ := callSW X9 hx hZ (y := (⟨"com/example/pathweave/pathweave/core/PairIndexLargestTwoPinLaw", "size", "(IZ)I"⟩ : MethodName)) hown (hw _ (List.mem_of_getElem? (i := 1) rfl)) (hw _ (List.mem_of_getElem? (i := 2) rfl)) (hw _ (List.mem_of_getElem? (i := 3) rfl)) (hw _ (List.mem_of_getElem? (i := 4) rfl)) (by decide) e9 O9 N9 (as' := [(.int i2), (.int t0)]) (ct1 hw hq10) (W := 3) (kc := 0) (ks := 0) rfl rfl (by decide) (by decide) (g := (mkF m 48 #[.val (.int i0), .val (.int i1), .val (.int i2), .val (.int i3), .val (.int i4), .val (.int i5), .val (.int i6), .val (.int t0), .unset, .unset, .unset, .unset, .unset, .unset] [(.int t0), (.int i2), (.int (2 : Int32)), (.ref (n0 + a3)), (.ref (n0 + a3))])) rfl (by rw [hml]; rfl) (rest := [(.int (2 : Int32)), (.ref (n0 + a3)), (.ref (n0 + a3))]) (lenOf pd_4 rfl) rfl (by show 2 * 0 + _ ≤ _; exact Nat.le_of_eq rfl) (hb hby at_48) (by show _ + 0 ≤ 24; omega) (by show _ + 0 ≤ 128; omega)
  obtain ⟨D12, hq12, hf⟩ := own_bind hf
  obtain ⟨T12, h12, L12, X12, e12, O12, N12, st12⟩ := stIW X10 hx hZ e10 O10 N10 hq12 rfl (g := (mkF m 51 #[.val (.int i0), .val (.int i1), .val (.int i2), .val (.int i3), .val (.int i4), .val (.int i5), .val (.int i6), .val (.int t0), .unset, .unset, .unset, .unset, .unset, .unset] [(.int x11), (.int (2 : Int32)), (.ref (n0 + a3)), (.ref (n0 + a3))])) rfl rfl (hb hby at_51)
  obtain ⟨⟨x14, D13⟩, hq13, hf⟩ := own_bind hf
  obtain ⟨_, rfl, hf⟩ := own_letE hf
  obtain ⟨_, rfl, hf⟩ := own_letE hf
  obtain ⟨T13, h13, L13, X13, e13, O13, N13, st13⟩ := callSW X12 hx hZ (y := (⟨"com/example/pathweave/pathweave/core/PairIndexLargestTwoPinLaw", "size", "(IZ)I"⟩ : MethodName)) hown (hw _ (List.mem_of_getElem? (i := 1) rfl)) (hw _ (List.mem_of_getElem? (i := 2) rfl)) (hw _ (List.mem_of_getElem? (i := 3) rfl)) (hw _ (List.mem_of_getElem? (i := 4) rfl)) (by decide) e12 O12 N12 (as' := [(.int i3), (.int t0)]) (ct1 hw hq13) (W := 3) (kc := 0) (ks := 0) rfl rfl (by decide) (by decide) (g := (mkF m 57 #[.val (.int i0), .val (.int i1), .val (.int i2), .val (.int i3), .val (.int i4), .val (.int i5), .val (.int i6), .val (.int t0), .unset, .unset, .unset, .unset, .unset, .unset] [(.int t0), (.int i3), (.int (3 : Int32)), (.ref (n0 + a3)), (.ref (n0 + a3))])) rfl (by rw [hml]; rfl) (rest := [(.int (3 : Int32)), (.ref (n0 + a3)), (.ref (n0 + a3))]) (lenOf pd_4 rfl) rfl (by show 2 * 0 + _ ≤ _; exact Nat.le_of_eq rfl) (hb hby at_57) (by show _ + 0 ≤ 24; omega) (by show _ + 0 ≤ 128; omega)
  obtain ⟨D15, hq15, hf⟩ := own_bind hf
  obtain ⟨T15, h15, L15, X15, e15, O15, N15, st15⟩ := stIW X13 hx hZ e13 O13 N13 hq15 rfl (g := (mkF m 60 #[.val (.int i0), .val (.int i1), .val (.int i2), .val (.int i3), .val (.int i4), .val (.int i5), .val (.int i6), .val (.int t0), .unset, .unset, .unset, .unset, .unset, .unset] [(.int x14), (.int (3 : Int32)), (.ref (n0 + a3)), (.ref (n0 + a3))])) rfl rfl (hb hby at_60)
  obtain ⟨⟨x17, D16⟩, hq16, hf⟩ := own_bind hf
  obtain ⟨_, rfl, hf⟩ := own_letE hf
  obtain ⟨_, rfl, hf⟩ := own_letE hf
  obtain ⟨T16, h16, L16, X16, e16, O16, N16, st16⟩ := callSW X15 hx hZ (y := (⟨"com/example/pathweave/pathweave/core/PairIndexLargestTwoPinLaw", "size", "(IZ)I"⟩ : MethodName)) hown (hw _ (List.mem_of_getElem? (i := 1) rfl)) (hw _ (List.mem_of_getElem? (i := 2) rfl)) (hw _ (List.mem_of_getElem? (i := 3) rfl)) (hw _ (List.mem_of_getElem? (i := 4) rfl)) (by decide) e15 O15 N15 (as' := [(.int i4), (.int t0)]) (ct1 hw hq16) (W := 3) (kc := 0) (ks := 0) rfl rfl (by decide) (by decide) (g := (mkF m 67 #[.val (.int i0), .val (.int i1), .val (.int i2), .val (.int i3), .val (.int i4), .val (.int i5), .val (.int i6), .val (.int t0), .unset, .unset, .unset, .unset, .unset, .unset] [(.int t0), (.int i4), (.int (4 : Int32)), (.ref (n0 + a3)), (.ref (n0 + a3))])) rfl (by rw [hml]; rfl) (rest := [(.int (4 : Int32)), (.ref (n0 + a3)), (.ref (n0 + a3))]) (lenOf pd_4 rfl) rfl (by show 2 * 0 + _ ≤ _; exact Nat.le_of_eq rfl) (hb hby at_67) (by show _ + 0 ≤ 24; omega) (by show _ + 0 ≤ 128; omega)
  obtain ⟨D18, hq18, hf⟩ := own_bind hf
  obtain ⟨T18, h18, L18, X18, e18, O18, N18, st18⟩ := stIW X16 hx hZ e16 O16 N16 hq18 rfl (g := (mkF m 70 #[.val (.int i0), .val (.int i1), .val (.int i2), .val (.int i3), .val (.int i4), .val (.int i5), .val (.int i6), .val (.int t0), .unset, .unset, .unset, .unset, .unset, .unset] [(.int x17), (.int (4 : Int32)), (.ref (n0 + a3)), (.ref (n0 + a3))])) rfl rfl (hb hby at_70)
  obtain ⟨⟨x20, D19⟩, hq19, hf⟩ := own_bind hf
  obtain ⟨_, rfl, hf⟩ := own_letE hf
  obtain ⟨_, rfl, hf⟩ := own_letE hf
  obtain ⟨T19, h19, L19, X19, e19, O19, N19, st19⟩ := callSW X18 hx hZ (y := (⟨"com/example/pathweave/pathweave/core/PairIndexLargestTwoPinLaw", "make", "(I[I)[I"⟩ : MethodName)) hown (hw _ (List.mem_of_getElem? (i := 5) rfl)) (hw _ (List.mem_of_getElem? (i := 6) rfl)) (hw _ (List.mem_of_getElem? (i := 3) rfl)) (hw _ (List.mem_of_getElem? (i := 7) rfl)) (by decide) e18 O18 N18 (as' := [(.int i6), (.ref (n0 + a3))]) (ct2 hw hq19) (W := 0) (kc := 1) (ks := 5) rfl rfl (by decide) (by decide) (g := (mkF m 77 #[.val (.int i0), .val (.int i1), .val (.int i2), .val (.int i3), .val (.int i4), .val (.int i5), .val (.int i6), .val (.int t0), .val (.ref (n0 + a3)), .unset, .unset, .unset, .unset, .unset] [(.ref (n0 + a3)), (.int i6)])) rfl (by rw [hml]; rfl) (rest := []) (lenOf pd_5 rfl) rfl (by show 2 * 0 + _ ≤ _; exact Nat.le_of_eq rfl) (hb hby at_77) (by show _ + 1 ≤ 24; omega) (by show _ + 5 ≤ 128; omega)
  obtain ⟨a21, ha21, hf⟩ := own_letE hf
  obtain ⟨D21, hD21, hf⟩ := own_letE hf
  obtain ⟨T21, h21, X21, e21, O21, st21⟩ := newW X19 hx hZ hown (hw _ (List.mem_of_getElem? (i := 8) rfl)) (hw _ (List.mem_of_getElem? (i := 9) rfl)) (hw _ (List.mem_of_getElem? (i := 10) rfl)) (lay1 hw) e19 O19 (t := 1) rfl (ds := [.null, .null, .null, (.int (0 : Int32))]) (by decide) (g := (mkF m 82 #[.val (.int i0), .val (.int i1), .val (.int i2), .val (.int i3), .val (.int i4), .val (.int i5), .val (.int i6), .val (.int t0), .val (.ref (n0 + a3)), .val (.ref (n0 + x20)), .unset, .unset, .unset, .unset] [])) rfl (hb hby at_82) (by show _ + 1 ≤ 24; omega) (by show _ + 4 ≤ 128; omega)
  rw [ha21] at st21
  rw [hD21] at O21
  obtain ⟨D22, hq22, hf⟩ := own_bind hf
  obtain ⟨T22, h22, L22, X22, e22, O22, N22, st22⟩ := callIW X21 hx hZ (y := (⟨"com/example/pathweave/pathweave/core/PairIndex", "<init>", "([I)V"⟩ : MethodName)) rfl hown (hw _ (List.mem_of_getElem? (i := 11) rfl)) (hw _ (List.mem_of_getElem? (i := 12) rfl)) (hw _ (List.mem_of_getElem? (i := 10) rfl)) (hw _ (List.mem_of_getElem? (i := 13) rfl)) (by decide) e21 O21 N19 (as' := [(.ref (n0 + x20))]) (ct3 hw hq22) (W := 1) (kc := 3) (ks := 24) rfl rfl (by decide) (by decide) (g := (mkF m 88 #[.val (.int i0), .val (.int i1), .val (.int i2), .val (.int i3), .val (.int i4), .val (.int i5), .val (.int i6), .val (.int t0), .val (.ref (n0 + a3)), .val (.ref (n0 + x20)), .unset, .unset, .unset, .unset] [(.ref (n0 + x20)), (.ref (n0 + a21)), (.ref (n0 + a21))])) rfl (by rw [hml]; rfl) (rest := [(.ref (n0 + a21))]) (lenOf pd_6 rfl) rfl (by show 2 * 0 + _ ≤ _; exact Nat.le_of_eq rfl) (hb hby at_88) (by show _ + 3 ≤ 24; omega) (by show _ + 24 ≤ 128; omega)
  obtain ⟨u24, hk23, hf⟩ := own_bind hf
  obtain ⟨⟨x25, D23⟩, hq23, hf⟩ := own_bind hf
  obtain ⟨_, rfl, hf⟩ := own_letE hf
  obtain ⟨_, rfl, hf⟩ := own_letE hf
  obtain ⟨T23, h23, L23, X23, e23, O23, N23, st23⟩ := callVW X22 hx hZ (y := (⟨"com/example/pathweave/pathweave/core/PairIndex", "largestTwo", "()[I"⟩ : MethodName)) hown (hw _ (List.mem_of_getElem? (i := 52) rfl)) (hw _ (List.mem_of_getElem? (i := 53) rfl)) (hw _ (List.mem_of_getElem? (i := 55) rfl)) (hw _ (List.mem_of_getElem? (i := 54) rfl)) (hw _ (List.mem_of_getElem? (i := 10) rfl)) (hw _ (List.mem_of_getElem? (i := 56) rfl)) (by decide) e22 O22 N22 hk23 rfl (as' := []) (ct10 hw hq23) (W := 0) (kc := 1) (ks := 2) rfl rfl (by decide) (by decide) (g := (mkF m 95 #[.val (.int i0), .val (.int i1), .val (.int i2), .val (.int i3), .val (.int i4), .val (.int i5), .val (.int i6), .val (.int t0), .val (.ref (n0 + a3)), .val (.ref (n0 + x20)), .val (.ref (n0 + a21)), .unset, .unset, .unset] [(.ref (n0 + a21))])) rfl (by rw [hml]; rfl) (rest := []) (lenOf pd_7 rfl) rfl (by show 2 * 0 + _ ≤ _; exact Nat.le_of_eq rfl) (hb hby at_95) (by show _ + 1 ≤ 24; omega) (by show _ + 2 ≤ 128; omega)
  obtain ⟨x26, hx26, hf⟩ := own_bind hf
  refine Gl.on (B := T23.setTop (mkF m 109 #[.val (.int i0), .val (.int i1), .val (.int i2), .val (.int i3), .val (.int i4), .val (.int i5), .val (.int i6), .val (.int t0), .val (.ref (n0 + a3)), .val (.ref (n0 + x20)), .val (.ref (n0 + a21)), .val (.ref (n0 + x25)), .unset, .unset] [(.int (2 : Int32)), (.int x26)])) (fun t k => ?_) ?_
  · show Steps p.tables e below (T0.setTop (mkF m 20 #[.val (.int i0), .val (.int i1), .val (.int i2), .val (.int i3), .val (.int i4), .val (.int i5), .val (.int i6), .unset, .unset, .unset, .unset, .unset, .unset, .unset] [(.int t0)])) _
    refine XS.istore X0.here hx rfl (hb hby at_20) rfl (l' := #[.val (.int i0), .val (.int i1), .val (.int i2), .val (.int i3), .val (.int i4), .val (.int i5), .val (.int i6), .val (.int t0), .unset, .unset, .unset, .unset, .unset, .unset]) rfl ?_
    show Steps p.tables e below (T0.setTop (mkF m 22 #[.val (.int i0), .val (.int i1), .val (.int i2), .val (.int i3), .val (.int i4), .val (.int i5), .val (.int i6), .val (.int t0), .unset, .unset, .unset, .unset, .unset, .unset] [])) _
    refine XS.iconst X0.here hx rfl (hb hby at_22) ?_
    show Steps p.tables e below (T0.setTop (mkF m 23 #[.val (.int i0), .val (.int i1), .val (.int i2), .val (.int i3), .val (.int i4), .val (.int i5), .val (.int i6), .val (.int t0), .unset, .unset, .unset, .unset, .unset, .unset] [(.int (5 : Int32))])) _
    refine st3 _ ?_
    show Steps p.tables e below (T3.setTop (mkF m 25 #[.val (.int i0), .val (.int i1), .val (.int i2), .val (.int i3), .val (.int i4), .val (.int i5), .val (.int i6), .val (.int t0), .unset, .unset, .unset, .unset, .unset, .unset] [(.ref (n0 + a3))])) _
    refine XS.dup X3.here hx rfl (hb hby at_25) rfl rfl ?_
    show Steps p.tables e below (T3.setTop (mkF m 26 #[.val (.int i0), .val (.int i1), .val (.int i2), .val (.int i3), .val (.int i4), .val (.int i5), .val (.int i6), .val (.int t0), .unset, .unset, .unset, .unset, .unset, .unset] [(.ref (n0 + a3)), (.ref (n0 + a3))])) _
    refine XS.iconst X3.here hx rfl (hb hby at_26) ?_
    show Steps p.tables e below (T3.setTop (mkF m 27 #[.val (.int i0), .val (.int i1), .val (.int i2), .val (.int i3), .val (.int i4), .val (.int i5), .val (.int i6), .val (.int t0), .unset, .unset, .unset, .unset, .unset, .unset] [(.int (0 : Int32)), (.ref (n0 + a3)), (.ref (n0 + a3))])) _
    refine XS.iloadN X3.here hx rfl (hb hby at_27) rfl ?_
    show Steps p.tables e below (T3.setTop (mkF m 28 #[.val (.int i0), .val (.int i1), .val (.int i2), .val (.int i3), .val (.int i4), .val (.int i5), .val (.int i6), .val (.int t0), .unset, .unset, .unset, .unset, .unset, .unset] [(.int i0), (.int (0 : Int32)), (.ref (n0 + a3)), (.ref (n0 + a3))])) _
    refine XS.iload X3.here hx rfl (hb hby at_28) rfl ?_
    show Steps p.tables e below (T3.setTop (mkF m 30 #[.val (.int i0), .val (.int i1), .val (.int i2), .val (.int i3), .val (.int i4), .val (.int i5), .val (.int i6), .val (.int t0), .unset, .unset, .unset, .unset, .unset, .unset] [(.int t0), (.int i0), (.int (0 : Int32)), (.ref (n0 + a3)), (.ref (n0 + a3))])) _
    refine st4 _ ?_
    show Steps p.tables e below (T4.setTop (mkF m 33 #[.val (.int i0), .val (.int i1), .val (.int i2), .val (.int i3), .val (.int i4), .val (.int i5), .val (.int i6), .val (.int t0), .unset, .unset, .unset, .unset, .unset, .unset] [(.int x5), (.int (0 : Int32)), (.ref (n0 + a3)), (.ref (n0 + a3))])) _
    refine st6 _ ?_
    show Steps p.tables e below (T6.setTop (mkF m 34 #[.val (.int i0), .val (.int i1), .val (.int i2), .val (.int i3), .val (.int i4), .val (.int i5), .val (.int i6), .val (.int t0), .unset, .unset, .unset, .unset, .unset, .unset] [(.ref (n0 + a3))])) _
    refine XS.dup X6.here hx rfl (hb hby at_34) rfl rfl ?_
    show Steps p.tables e below (T6.setTop (mkF m 35 #[.val (.int i0), .val (.int i1), .val (.int i2), .val (.int i3), .val (.int i4), .val (.int i5), .val (.int i6), .val (.int t0), .unset, .unset, .unset, .unset, .unset, .unset] [(.ref (n0 + a3)), (.ref (n0 + a3))])) _
    refine XS.iconst X6.here hx rfl (hb hby at_35) ?_
    show Steps p.tables e below (T6.setTop (mkF m 36 #[.val (.int i0), .val (.int i1), .val (.int i2), .val (.int i3), .val (.int i4), .val (.int i5), .val (.int i6), .val (.int t0), .unset, .unset, .unset, .unset, .unset, .unset] [(.int (1 : Int32)), (.ref (n0 + a3)), (.ref (n0 + a3))])) _
    refine XS.iloadN X6.here hx rfl (hb hby at_36) rfl ?_
    show Steps p.tables e below (T6.setTop (mkF m 37 #[.val (.int i0), .val (.int i1), .val (.int i2), .val (.int i3), .val (.int i4), .val (.int i5), .val (.int i6), .val (.int t0), .unset, .unset, .unset, .unset, .unset, .unset] [(.int i1), (.int (1 : Int32)), (.ref (n0 + a3)), (.ref (n0 + a3))])) _
    refine XS.iload X6.here hx rfl (hb hby at_37) rfl ?_
    show Steps p.tables e below (T6.setTop (mkF m 39 #[.val (.int i0), .val (.int i1), .val (.int i2), .val (.int i3), .val (.int i4), .val (.int i5), .val (.int i6), .val (.int t0), .unset, .unset, .unset, .unset, .unset, .unset] [(.int t0), (.int i1), (.int (1 : Int32)), (.ref (n0 + a3)), (.ref (n0 + a3))])) _
    refine st7 _ ?_
    show Steps p.tables e below (T7.setTop (mkF m 42 #[.val (.int i0), .val (.int i1), .val (.int i2), .val (.int i3), .val (.int i4), .val (.int i5), .val (.int i6), .val (.int t0), .unset, .unset, .unset, .unset, .unset, .unset] [(.int x8), (.int (1 : Int32)), (.ref (n0 + a3)), (.ref (n0 + a3))])) _
    refine st9 _ ?_
    show Steps p.tables e below (T9.setTop (mkF m 43 #[.val (.int i0), .val (.int i1), .val (.int i2), .val (.int i3), .val (.int i4), .val (.int i5), .val (.int i6), .val (.int t0), .unset, .unset, .unset, .unset, .unset, .unset] [(.ref (n0 + a3))])) _
    refine XS.dup X9.here hx rfl (hb hby at_43) rfl rfl ?_
    show Steps p.tables e below (T9.setTop (mkF m 44 #[.val (.int i0), .val (.int i1), .val (.int i2), .val (.int i3), .val (.int i4), .val (.int i5), .val (.int i6), .val (.int t0), .unset, .unset, .unset, .unset, .unset, .unset] [(.ref (n0 + a3)), (.ref (n0 + a3))])) _
    refine XS.iconst X9.here hx rfl (hb hby at_44) ?_
    show Steps p.tables e below (T9.setTop (mkF m 45 #[.val (.int i0), .val (.int i1), .val (.int i2), .val (.int i3), .val (.int i4), .val (.int i5), .val (.int i6), .val (.int t0), .unset, .unset, .unset, .unset, .unset, .unset] [(.int (2 : Int32)), (.ref (n0 + a3)), (.ref (n0 + a3))])) _
    refine XS.iloadN X9.here hx rfl (hb hby at_45) rfl ?_
    show Steps p.tables e below (T9.setTop (mkF m 46 #[.val (.int i0), .val (.int i1), .val (.int i2), .val (.int i3), .val (.int i4), .val (.int i5), .val (.int i6), .val (.int t0), .unset, .unset, .unset, .unset, .unset, .unset] [(.int i2), (.int (2 : Int32)), (.ref (n0 + a3)), (.ref (n0 + a3))])) _
    refine XS.iload X9.here hx rfl (hb hby at_46) rfl ?_
    show Steps p.tables e below (T9.setTop (mkF m 48 #[.val (.int i0), .val (.int i1), .val (.int i2), .val (.int i3), .val (.int i4), .val (.int i5), .val (.int i6), .val (.int t0), .unset, .unset, .unset, .unset, .unset, .unset] [(.int t0), (.int i2), (.int (2 : Int32)), (.ref (n0 + a3)), (.ref (n0 + a3))])) _
    refine st10 _ ?_
    show Steps p.tables e below (T10.setTop (mkF m 51 #[.val (.int i0), .val (.int i1), .val (.int i2), .val (.int i3), .val (.int i4), .val (.int i5), .val (.int i6), .val (.int t0), .unset, .unset, .unset, .unset, .unset, .unset] [(.int x11), (.int (2 : Int32)), (.ref (n0 + a3)), (.ref (n0 + a3))])) _
    refine st12 _ ?_
    show Steps p.tables e below (T12.setTop (mkF m 52 #[.val (.int i0), .val (.int i1), .val (.int i2), .val (.int i3), .val (.int i4), .val (.int i5), .val (.int i6), .val (.int t0), .unset, .unset, .unset, .unset, .unset, .unset] [(.ref (n0 + a3))])) _
    refine XS.dup X12.here hx rfl (hb hby at_52) rfl rfl ?_
    show Steps p.tables e below (T12.setTop (mkF m 53 #[.val (.int i0), .val (.int i1), .val (.int i2), .val (.int i3), .val (.int i4), .val (.int i5), .val (.int i6), .val (.int t0), .unset, .unset, .unset, .unset, .unset, .unset] [(.ref (n0 + a3)), (.ref (n0 + a3))])) _
    refine XS.iconst X12.here hx rfl (hb hby at_53) ?_
    show Steps p.tables e below (T12.setTop (mkF m 54 #[.val (.int i0), .val (.int i1), .val (.int i2), .val (.int i3), .val (.int i4), .val (.int i5), .val (.int i6), .val (.int t0), .unset, .unset, .unset, .unset, .unset, .unset] [(.int (3 : Int32)), (.ref (n0 + a3)), (.ref (n0 + a3))])) _
    refine XS.iloadN X12.here hx rfl (hb hby at_54) rfl ?_
    show Steps p.tables e below (T12.setTop (mkF m 55 #[.val (.int i0), .val (.int i1), .val (.int i2), .val (.int i3), .val (.int i4), .val (.int i5), .val (.int i6), .val (.int t0), .unset, .unset, .unset, .unset, .unset, .unset] [(.int i3), (.int (3 : Int32)), (.ref (n0 + a3)), (.ref (n0 + a3))])) _
    refine XS.iload X12.here hx rfl (hb hby at_55) rfl ?_
    show Steps p.tables e below (T12.setTop (mkF m 57 #[.val (.int i0), .val (.int i1), .val (.int i2), .val (.int i3), .val (.int i4), .val (.int i5), .val (.int i6), .val (.int t0), .unset, .unset, .unset, .unset, .unset, .unset] [(.int t0), (.int i3), (.int (3 : Int32)), (.ref (n0 + a3)), (.ref (n0 + a3))])) _
    refine st13 _ ?_
    show Steps p.tables e below (T13.setTop (mkF m 60 #[.val (.int i0), .val (.int i1), .val (.int i2), .val (.int i3), .val (.int i4), .val (.int i5), .val (.int i6), .val (.int t0), .unset, .unset, .unset, .unset, .unset, .unset] [(.int x14), (.int (3 : Int32)), (.ref (n0 + a3)), (.ref (n0 + a3))])) _
    refine st15 _ ?_
    show Steps p.tables e below (T15.setTop (mkF m 61 #[.val (.int i0), .val (.int i1), .val (.int i2), .val (.int i3), .val (.int i4), .val (.int i5), .val (.int i6), .val (.int t0), .unset, .unset, .unset, .unset, .unset, .unset] [(.ref (n0 + a3))])) _
    refine XS.dup X15.here hx rfl (hb hby at_61) rfl rfl ?_
    show Steps p.tables e below (T15.setTop (mkF m 62 #[.val (.int i0), .val (.int i1), .val (.int i2), .val (.int i3), .val (.int i4), .val (.int i5), .val (.int i6), .val (.int t0), .unset, .unset, .unset, .unset, .unset, .unset] [(.ref (n0 + a3)), (.ref (n0 + a3))])) _
    refine XS.iconst X15.here hx rfl (hb hby at_62) ?_
    show Steps p.tables e below (T15.setTop (mkF m 63 #[.val (.int i0), .val (.int i1), .val (.int i2), .val (.int i3), .val (.int i4), .val (.int i5), .val (.int i6), .val (.int t0), .unset, .unset, .unset, .unset, .unset, .unset] [(.int (4 : Int32)), (.ref (n0 + a3)), (.ref (n0 + a3))])) _
    refine XS.iload X15.here hx rfl (hb hby at_63) rfl ?_
    show Steps p.tables e below (T15.setTop (mkF m 65 #[.val (.int i0), .val (.int i1), .val (.int i2), .val (.int i3), .val (.int i4), .val (.int i5), .val (.int i6), .val (.int t0), .unset, .unset, .unset, .unset, .unset, .unset] [(.int i4), (.int (4 : Int32)), (.ref (n0 + a3)), (.ref (n0 + a3))])) _
    refine XS.iload X15.here hx rfl (hb hby at_65) rfl ?_
    show Steps p.tables e below (T15.setTop (mkF m 67 #[.val (.int i0), .val (.int i1), .val (.int i2), .val (.int i3), .val (.int i4), .val (.int i5), .val (.int i6), .val (.int t0), .unset, .unset, .unset, .unset, .unset, .unset] [(.int t0), (.int i4), (.int (4 : Int32)), (.ref (n0 + a3)), (.ref (n0 + a3))])) _
    refine st16 _ ?_
    show Steps p.tables e below (T16.setTop (mkF m 70 #[.val (.int i0), .val (.int i1), .val (.int i2), .val (.int i3), .val (.int i4), .val (.int i5), .val (.int i6), .val (.int t0), .unset, .unset, .unset, .unset, .unset, .unset] [(.int x17), (.int (4 : Int32)), (.ref (n0 + a3)), (.ref (n0 + a3))])) _
    refine st18 _ ?_
    show Steps p.tables e below (T18.setTop (mkF m 71 #[.val (.int i0), .val (.int i1), .val (.int i2), .val (.int i3), .val (.int i4), .val (.int i5), .val (.int i6), .val (.int t0), .unset, .unset, .unset, .unset, .unset, .unset] [(.ref (n0 + a3))])) _
    refine XS.astore X18.here hx rfl (hb hby at_71) rfl rfl (l' := #[.val (.int i0), .val (.int i1), .val (.int i2), .val (.int i3), .val (.int i4), .val (.int i5), .val (.int i6), .val (.int t0), .val (.ref (n0 + a3)), .unset, .unset, .unset, .unset, .unset]) rfl ?_
    show Steps p.tables e below (T18.setTop (mkF m 73 #[.val (.int i0), .val (.int i1), .val (.int i2), .val (.int i3), .val (.int i4), .val (.int i5), .val (.int i6), .val (.int t0), .val (.ref (n0 + a3)), .unset, .unset, .unset, .unset, .unset] [])) _
    refine XS.iload X18.here hx rfl (hb hby at_73) rfl ?_
    show Steps p.tables e below (T18.setTop (mkF m 75 #[.val (.int i0), .val (.int i1), .val (.int i2), .val (.int i3), .val (.int i4), .val (.int i5), .val (.int i6), .val (.int t0), .val (.ref (n0 + a3)), .unset, .unset, .unset, .unset, .unset] [(.int i6)])) _
    refine XS.aload X18.here hx rfl (hb hby at_75) rfl rfl ?_
    show Steps p.tables e below (T18.setTop (mkF m 77 #[.val (.int i0), .val (.int i1), .val (.int i2), .val (.int i3), .val (.int i4), .val (.int i5), .val (.int i6), .val (.int t0), .val (.ref (n0 + a3)), .unset, .unset, .unset, .unset, .unset] [(.ref (n0 + a3)), (.int i6)])) _
    refine st19 _ ?_
    show Steps p.tables e below (T19.setTop (mkF m 80 #[.val (.int i0), .val (.int i1), .val (.int i2), .val (.int i3), .val (.int i4), .val (.int i5), .val (.int i6), .val (.int t0), .val (.ref (n0 + a3)), .unset, .unset, .unset, .unset, .unset] [(.ref (n0 + x20))])) _
    refine XS.astore X19.here hx rfl (hb hby at_80) rfl rfl (l' := #[.val (.int i0), .val (.int i1), .val (.int i2), .val (.int i3), .val (.int i4), .val (.int i5), .val (.int i6), .val (.int t0), .val (.ref (n0 + a3)), .val (.ref (n0 + x20)), .unset, .unset, .unset, .unset]) rfl ?_
    show Steps p.tables e below (T19.setTop (mkF m 82 #[.val (.int i0), .val (.int i1), .val (.int i2), .val (.int i3), .val (.int i4), .val (.int i5), .val (.int i6), .val (.int t0), .val (.ref (n0 + a3)), .val (.ref (n0 + x20)), .unset, .unset, .unset, .unset] [])) _
    refine st21 _ ?_
    show Steps p.tables e below (T21.setTop (mkF m 85 #[.val (.int i0), .val (.int i1), .val (.int i2), .val (.int i3), .val (.int i4), .val (.int i5), .val (.int i6), .val (.int t0), .val (.ref (n0 + a3)), .val (.ref (n0 + x20)), .unset, .unset, .unset, .unset] [(.ref (n0 + a21))])) _
    refine XS.dup X21.here hx rfl (hb hby at_85) rfl rfl ?_
    show Steps p.tables e below (T21.setTop (mkF m 86 #[.val (.int i0), .val (.int i1), .val (.int i2), .val (.int i3), .val (.int i4), .val (.int i5), .val (.int i6), .val (.int t0), .val (.ref (n0 + a3)), .val (.ref (n0 + x20)), .unset, .unset, .unset, .unset] [(.ref (n0 + a21)), (.ref (n0 + a21))])) _
    refine XS.aload X21.here hx rfl (hb hby at_86) rfl rfl ?_
    show Steps p.tables e below (T21.setTop (mkF m 88 #[.val (.int i0), .val (.int i1), .val (.int i2), .val (.int i3), .val (.int i4), .val (.int i5), .val (.int i6), .val (.int t0), .val (.ref (n0 + a3)), .val (.ref (n0 + x20)), .unset, .unset, .unset, .unset] [(.ref (n0 + x20)), (.ref (n0 + a21)), (.ref (n0 + a21))])) _
    refine st22 _ ?_
    show Steps p.tables e below (T22.setTop (mkF m 91 #[.val (.int i0), .val (.int i1), .val (.int i2), .val (.int i3), .val (.int i4), .val (.int i5), .val (.int i6), .val (.int t0), .val (.ref (n0 + a3)), .val (.ref (n0 + x20)), .unset, .unset, .unset, .unset] [(.ref (n0 + a21))])) _
    refine XS.astore X22.here hx rfl (hb hby at_91) rfl rfl (l' := #[.val (.int i0), .val (.int i1), .val (.int i2), .val (.int i3), .val (.int i4), .val (.int i5), .val (.int i6), .val (.int t0), .val (.ref (n0 + a3)), .val (.ref (n0 + x20)), .val (.ref (n0 + a21)), .unset, .unset, .unset]) rfl ?_
    show Steps p.tables e below (T22.setTop (mkF m 93 #[.val (.int i0), .val (.int i1), .val (.int i2), .val (.int i3), .val (.int i4), .val (.int i5), .val (.int i6), .val (.int t0), .val (.ref (n0 + a3)), .val (.ref (n0 + x20)), .val (.ref (n0 + a21)), .unset, .unset, .unset] [])) _
    refine XS.aload X22.here hx rfl (hb hby at_93) rfl rfl ?_
    show Steps p.tables e below (T22.setTop (mkF m 95 #[.val (.int i0), .val (.int i1), .val (.int i2), .val (.int i3), .val (.int i4), .val (.int i5), .val (.int i6), .val (.int t0), .val (.ref (n0 + a3)), .val (.ref (n0 + x20)), .val (.ref (n0 + a21)), .unset, .unset, .unset] [(.ref (n0 + a21))])) _
    refine st23 _ ?_
    show Steps p.tables e below (T23.setTop (mkF m 98 #[.val (.int i0), .val (.int i1), .val (.int i2), .val (.int i3), .val (.int i4), .val (.int i5), .val (.int i6), .val (.int t0), .val (.ref (n0 + a3)), .val (.ref (n0 + x20)), .val (.ref (n0 + a21)), .unset, .unset, .unset] [(.ref (n0 + x25))])) _
    refine XS.astore X23.here hx rfl (hb hby at_98) rfl rfl (l' := #[.val (.int i0), .val (.int i1), .val (.int i2), .val (.int i3), .val (.int i4), .val (.int i5), .val (.int i6), .val (.int t0), .val (.ref (n0 + a3)), .val (.ref (n0 + x20)), .val (.ref (n0 + a21)), .val (.ref (n0 + x25)), .unset, .unset]) rfl ?_
    show Steps p.tables e below (T23.setTop (mkF m 100 #[.val (.int i0), .val (.int i1), .val (.int i2), .val (.int i3), .val (.int i4), .val (.int i5), .val (.int i6), .val (.int t0), .val (.ref (n0 + a3)), .val (.ref (n0 + x20)), .val (.ref (n0 + a21)), .val (.ref (n0 + x25)), .unset, .unset] [])) _
    refine XS.aload X23.here hx rfl (hb hby at_100) rfl rfl ?_
    show Steps p.tables e below (T23.setTop (mkF m 102 #[.val (.int i0), .val (.int i1), .val (.int i2), .val (.int i3), .val (.int i4), .val (.int i5), .val (.int i6), .val (.int t0), .val (.ref (n0 + a3)), .val (.ref (n0 + x20)), .val (.ref (n0 + a21)), .val (.ref (n0 + x25)), .unset, .unset] [(.ref (n0 + x25))])) _
    refine XS.ifnullNo X23.here hx rfl (hb hby at_102) rfl ?_
    show Steps p.tables e below (T23.setTop (mkF m 105 #[.val (.int i0), .val (.int i1), .val (.int i2), .val (.int i3), .val (.int i4), .val (.int i5), .val (.int i6), .val (.int t0), .val (.ref (n0 + a3)), .val (.ref (n0 + x20)), .val (.ref (n0 + a21)), .val (.ref (n0 + x25)), .unset, .unset] [])) _
    refine XS.aload X23.here hx rfl (hb hby at_105) rfl rfl ?_
    show Steps p.tables e below (T23.setTop (mkF m 107 #[.val (.int i0), .val (.int i1), .val (.int i2), .val (.int i3), .val (.int i4), .val (.int i5), .val (.int i6), .val (.int t0), .val (.ref (n0 + a3)), .val (.ref (n0 + x20)), .val (.ref (n0 + a21)), .val (.ref (n0 + x25)), .unset, .unset] [(.ref (n0 + x25))])) _
    refine lenW' X23 hx hZ e23 O23 hx26 (ty := .int) rfl (g := (mkF m 107 #[.val (.int i0), .val (.int i1), .val (.int i2), .val (.int i3), .val (.int i4), .val (.int i5), .val (.int i6), .val (.int t0), .val (.ref (n0 + a3)), .val (.ref (n0 + x20)), .val (.ref (n0 + a21)), .val (.ref (n0 + x25)), .unset, .unset] [(.ref (n0 + x25))])) rfl rfl (hb hby at_107) _ ?_
    show Steps p.tables e below (T23.setTop (mkF m 108 #[.val (.int i0), .val (.int i1), .val (.int i2), .val (.int i3), .val (.int i4), .val (.int i5), .val (.int i6), .val (.int t0), .val (.ref (n0 + a3)), .val (.ref (n0 + x20)), .val (.ref (n0 + a21)), .val (.ref (n0 + x25)), .unset, .unset] [(.int x26)])) _
    refine XS.iconst X23.here hx rfl (hb hby at_108) ?_
    exact k
  by_cases hc27 : x26 = (2 : Int32)
  · rw [if_pos hc27] at hf
    obtain ⟨x28, hx28, hf⟩ := own_bind hf
    obtain ⟨x29, hx29, hf⟩ := own_bind hf
    refine Gl.on (B := T23.setTop (mkF m 128 #[.val (.int i0), .val (.int i1), .val (.int i2), .val (.int i3), .val (.int i4), .val (.int i5), .val (.int i6), .val (.int t0), .val (.ref (n0 + a3)), .val (.ref (n0 + x20)), .val (.ref (n0 + a21)), .val (.ref (n0 + x25)), .val (.int x28), .val (.int x29)] [(.int x28)])) (fun t k => ?_) ?_
    · show Steps p.tables e below (T23.setTop (mkF m 109 #[.val (.int i0), .val (.int i1), .val (.int i2), .val (.int i3), .val (.int i4), .val (.int i5), .val (.int i6), .val (.int t0), .val (.ref (n0 + a3)), .val (.ref (n0 + x20)), .val (.ref (n0 + a21)), .val (.ref (n0 + x25)), .unset, .unset] [(.int (2 : Int32)), (.int x26)])) _
      refine XS.icmpYes X23.here hx rfl (pc0 := 109) (pc' := 114) rfl (hb hby at_109) rfl (teq hc27).1 (by decide) (by decide) ?_
      show Steps p.tables e below (T23.setTop (mkF m 114 #[.val (.int i0), .val (.int i1), .val (.int i2), .val (.int i3), .val (.int i4), .val (.int i5), .val (.int i6), .val (.int t0), .val (.ref (n0 + a3)), .val (.ref (n0 + x20)), .val (.ref (n0 + a21)), .val (.ref (n0 + x25)), .unset, .unset] [])) _
      refine XS.aload X23.here hx rfl (hb hby at_114) rfl rfl ?_
      show Steps p.tables e below (T23.setTop (mkF m 116 #[.val (.int i0), .val (.int i1), .val (.int i2), .val (.int i3), .val (.int i4), .val (.int i5), .val (.int i6), .val (.int t0), .val (.ref (n0 + a3)), .val (.ref (n0 + x20)), .val (.ref (n0 + a21)), .val (.ref (n0 + x25)), .unset, .unset] [(.ref (n0 + x25))])) _
      refine XS.iconst X23.here hx rfl (hb hby at_116) ?_
      show Steps p.tables e below (T23.setTop (mkF m 117 #[.val (.int i0), .val (.int i1), .val (.int i2), .val (.int i3), .val (.int i4), .val (.int i5), .val (.int i6), .val (.int t0), .val (.ref (n0 + a3)), .val (.ref (n0 + x20)), .val (.ref (n0 + a21)), .val (.ref (n0 + x25)), .unset, .unset] [(.int (0 : Int32)), (.ref (n0 + x25))])) _
      refine ldW X23 hx hZ e23 O23 hx28 rfl (g := (mkF m 117 #[.val (.int i0), .val (.int i1), .val (.int i2), .val (.int i3), .val (.int i4), .val (.int i5), .val (.int i6), .val (.int t0), .val (.ref (n0 + a3)), .val (.ref (n0 + x20)), .val (.ref (n0 + a21)), .val (.ref (n0 + x25)), .unset, .unset] [(.int (0 : Int32)), (.ref (n0 + x25))])) rfl rfl (hb hby at_117) _ ?_
      show Steps p.tables e below (T23.setTop (mkF m 118 #[.val (.int i0), .val (.int i1), .val (.int i2), .val (.int i3), .val (.int i4), .val (.int i5), .val (.int i6), .val (.int t0), .val (.ref (n0 + a3)), .val (.ref (n0 + x20)), .val (.ref (n0 + a21)), .val (.ref (n0 + x25)), .unset, .unset] [(.int x28)])) _
      refine XS.istore X23.here hx rfl (hb hby at_118) rfl (l' := #[.val (.int i0), .val (.int i1), .val (.int i2), .val (.int i3), .val (.int i4), .val (.int i5), .val (.int i6), .val (.int t0), .val (.ref (n0 + a3)), .val (.ref (n0 + x20)), .val (.ref (n0 + a21)), .val (.ref (n0 + x25)), .val (.int x28), .unset]) rfl ?_
      show Steps p.tables e below (T23.setTop (mkF m 120 #[.val (.int i0), .val (.int i1), .val (.int i2), .val (.int i3), .val (.int i4), .val (.int i5), .val (.int i6), .val (.int t0), .val (.ref (n0 + a3)), .val (.ref (n0 + x20)), .val (.ref (n0 + a21)), .val (.ref (n0 + x25)), .val (.int x28), .unset] [])) _
      refine XS.aload X23.here hx rfl (hb hby at_120) rfl rfl ?_
      show Steps p.tables e below (T23.setTop (mkF m 122 #[.val (.int i0), .val (.int i1), .val (.int i2), .val (.int i3), .val (.int i4), .val (.int i5), .val (.int i6), .val (.int t0), .val (.ref (n0 + a3)), .val (.ref (n0 + x20)), .val (.ref (n0 + a21)), .val (.ref (n0 + x25)), .val (.int x28), .unset] [(.ref (n0 + x25))])) _
      refine XS.iconst X23.here hx rfl (hb hby at_122) ?_
      show Steps p.tables e below (T23.setTop (mkF m 123 #[.val (.int i0), .val (.int i1), .val (.int i2), .val (.int i3), .val (.int i4), .val (.int i5), .val (.int i6), .val (.int t0), .val (.ref (n0 + a3)), .val (.ref (n0 + x20)), .val (.ref (n0 + a21)), .val (.ref (n0 + x25)), .val (.int x28), .unset] [(.int (1 : Int32)), (.ref (n0 + x25))])) _
      refine ldW X23 hx hZ e23 O23 hx29 rfl (g := (mkF m 123 #[.val (.int i0), .val (.int i1), .val (.int i2), .val (.int i3), .val (.int i4), .val (.int i5), .val (.int i6), .val (.int t0), .val (.ref (n0 + a3)), .val (.ref (n0 + x20)), .val (.ref (n0 + a21)), .val (.ref (n0 + x25)), .val (.int x28), .unset] [(.int (1 : Int32)), (.ref (n0 + x25))])) rfl rfl (hb hby at_123) _ ?_
      show Steps p.tables e below (T23.setTop (mkF m 124 #[.val (.int i0), .val (.int i1), .val (.int i2), .val (.int i3), .val (.int i4), .val (.int i5), .val (.int i6), .val (.int t0), .val (.ref (n0 + a3)), .val (.ref (n0 + x20)), .val (.ref (n0 + a21)), .val (.ref (n0 + x25)), .val (.int x28), .unset] [(.int x29)])) _
      refine XS.istore X23.here hx rfl (hb hby at_124) rfl (l' := #[.val (.int i0), .val (.int i1), .val (.int i2), .val (.int i3), .val (.int i4), .val (.int i5), .val (.int i6), .val (.int t0), .val (.ref (n0 + a3)), .val (.ref (n0 + x20)), .val (.ref (n0 + a21)), .val (.ref (n0 + x25)), .val (.int x28), .val (.int x29)]) rfl ?_
      show Steps p.tables e below (T23.setTop (mkF m 126 #[.val (.int i0), .val (.int i1), .val (.int i2), .val (.int i3), .val (.int i4), .val (.int i5), .val (.int i6), .val (.int t0), .val (.ref (n0 + a3)), .val (.ref (n0 + x20)), .val (.ref (n0 + a21)), .val (.ref (n0 + x25)), .val (.int x28), .val (.int x29)] [])) _
      refine XS.iload X23.here hx rfl (hb hby at_126) rfl ?_
      exact k
    by_cases hc30 : x28 < (0 : Int32)
    · rw [if_pos hc30] at hf
      refine Gl.on (B := T23.setTop (mkF m 158 #[.val (.int i0), .val (.int i1), .val (.int i2), .val (.int i3), .val (.int i4), .val (.int i5), .val (.int i6), .val (.int t0), .val (.ref (n0 + a3)), .val (.ref (n0 + x20)), .val (.ref (n0 + a21)), .val (.ref (n0 + x25)), .val (.int x28), .val (.int x29)] [(.int (0 : Int32))])) (fun t k => ?_) ?_
      · show Steps p.tables e below (T23.setTop (mkF m 128 #[.val (.int i0), .val (.int i1), .val (.int i2), .val (.int i3), .val (.int i4), .val (.int i5), .val (.int i6), .val (.int t0), .val (.ref (n0 + a3)), .val (.ref (n0 + x20)), .val (.ref (n0 + a21)), .val (.ref (n0 + x25)), .val (.int x28), .val (.int x29)] [(.int x28)])) _
        refine XS.ifYes X23.here hx rfl (pc0 := 128) (pc' := 157) rfl (hb hby at_128) rfl ((if0 _ _).trans (tlt hc30).1) (by decide) (by decide) ?_
        show Steps p.tables e below (T23.setTop (mkF m 157 #[.val (.int i0), .val (.int i1), .val (.int i2), .val (.int i3), .val (.int i4), .val (.int i5), .val (.int i6), .val (.int t0), .val (.ref (n0 + a3)), .val (.ref (n0 + x20)), .val (.ref (n0 + a21)), .val (.ref (n0 + x25)), .val (.int x28), .val (.int x29)] [])) _
        refine XS.iconst X23.here hx rfl (hb hby at_157) ?_
        exact k
      obtain ⟨rfl, rfl⟩ := own_inj hf
      exact Gl.outN X23 hx hlk (t := .boolean) hret (by simp) (hb hby at_158) ⟨rfl, N23, by rw [e23]; exact O23⟩ (by show _ ≤ 24; omega) (by show _ ≤ 128; omega)
    · rw [if_neg hc30] at hf
      refine Gl.on (B := T23.setTop (mkF m 135 #[.val (.int i0), .val (.int i1), .val (.int i2), .val (.int i3), .val (.int i4), .val (.int i5), .val (.int i6), .val (.int t0), .val (.ref (n0 + a3)), .val (.ref (n0 + x20)), .val (.ref (n0 + a21)), .val (.ref (n0 + x25)), .val (.int x28), .val (.int x29)] [(.int i6), (.int x28)])) (fun t k => ?_) ?_
      · show Steps p.tables e below (T23.setTop (mkF m 128 #[.val (.int i0), .val (.int i1), .val (.int i2), .val (.int i3), .val (.int i4), .val (.int i5), .val (.int i6), .val (.int t0), .val (.ref (n0 + a3)), .val (.ref (n0 + x20)), .val (.ref (n0 + a21)), .val (.ref (n0 + x25)), .val (.int x28), .val (.int x29)] [(.int x28)])) _
        refine XS.ifNo X23.here hx rfl (hb hby at_128) rfl ((if0 _ _).trans (flt hc30).1) ?_
        show Steps p.tables e below (T23.setTop (mkF m 131 #[.val (.int i0), .val (.int i1), .val (.int i2), .val (.int i3), .val (.int i4), .val (.int i5), .val (.int i6), .val (.int t0), .val (.ref (n0 + a3)), .val (.ref (n0 + x20)), .val (.ref (n0 + a21)), .val (.ref (n0 + x25)), .val (.int x28), .val (.int x29)] [])) _
        refine XS.iload X23.here hx rfl (hb hby at_131) rfl ?_
        show Steps p.tables e below (T23.setTop (mkF m 133 #[.val (.int i0), .val (.int i1), .val (.int i2), .val (.int i3), .val (.int i4), .val (.int i5), .val (.int i6), .val (.int t0), .val (.ref (n0 + a3)), .val (.ref (n0 + x20)), .val (.ref (n0 + a21)), .val (.ref (n0 + x25)), .val (.int x28), .val (.int x29)] [(.int x28)])) _
        refine XS.iload X23.here hx rfl (hb hby at_133) rfl ?_
        exact k
      by_cases hc31 : x28 < i6
      · rw [if_pos hc31] at hf
        refine Gl.on (B := T23.setTop (mkF m 140 #[.val (.int i0), .val (.int i1), .val (.int i2), .val (.int i3), .val (.int i4), .val (.int i5), .val (.int i6), .val (.int t0), .val (.ref (n0 + a3)), .val (.ref (n0 + x20)), .val (.ref (n0 + a21)), .val (.ref (n0 + x25)), .val (.int x28), .val (.int x29)] [(.int x29)])) (fun t k => ?_) ?_
        · show Steps p.tables e below (T23.setTop (mkF m 135 #[.val (.int i0), .val (.int i1), .val (.int i2), .val (.int i3), .val (.int i4), .val (.int i5), .val (.int i6), .val (.int t0), .val (.ref (n0 + a3)), .val (.ref (n0 + x20)), .val (.ref (n0 + a21)), .val (.ref (n0 + x25)), .val (.int x28), .val (.int x29)] [(.int i6), (.int x28)])) _
          refine XS.icmpNo X23.here hx rfl (hb hby at_135) rfl (tlt hc31).2.1 ?_
          show Steps p.tables e below (T23.setTop (mkF m 138 #[.val (.int i0), .val (.int i1), .val (.int i2), .val (.int i3), .val (.int i4), .val (.int i5), .val (.int i6), .val (.int t0), .val (.ref (n0 + a3)), .val (.ref (n0 + x20)), .val (.ref (n0 + a21)), .val (.ref (n0 + x25)), .val (.int x28), .val (.int x29)] [])) _
          refine XS.iload X23.here hx rfl (hb hby at_138) rfl ?_
          exact k
        by_cases hc32 : x29 < (0 : Int32)
        · rw [if_pos hc32] at hf
          refine Gl.on (B := T23.setTop (mkF m 158 #[.val (.int i0), .val (.int i1), .val (.int i2), .val (.int i3), .val (.int i4), .val (.int i5), .val (.int i6), .val (.int t0), .val (.ref (n0 + a3)), .val (.ref (n0 + x20)), .val (.ref (n0 + a21)), .val (.ref (n0 + x25)), .val (.int x28), .val (.int x29)] [(.int (0 : Int32))])) (fun t k => ?_) ?_
          · show Steps p.tables e below (T23.setTop (mkF m 140 #[.val (.int i0), .val (.int i1), .val (.int i2), .val (.int i3), .val (.int i4), .val (.int i5), .val (.int i6), .val (.int t0), .val (.ref (n0 + a3)), .val (.ref (n0 + x20)), .val (.ref (n0 + a21)), .val (.ref (n0 + x25)), .val (.int x28), .val (.int x29)] [(.int x29)])) _
            refine XS.ifYes X23.here hx rfl (pc0 := 140) (pc' := 157) rfl (hb hby at_140) rfl ((if0 _ _).trans (tlt hc32).1) (by decide) (by decide) ?_
            show Steps p.tables e below (T23.setTop (mkF m 157 #[.val (.int i0), .val (.int i1), .val (.int i2), .val (.int i3), .val (.int i4), .val (.int i5), .val (.int i6), .val (.int t0), .val (.ref (n0 + a3)), .val (.ref (n0 + x20)), .val (.ref (n0 + a21)), .val (.ref (n0 + x25)), .val (.int x28), .val (.int x29)] [])) _
            refine XS.iconst X23.here hx rfl (hb hby at_157) ?_
            exact k
          obtain ⟨rfl, rfl⟩ := own_inj hf
          exact Gl.outN X23 hx hlk (t := .boolean) hret (by simp) (hb hby at_158) ⟨rfl, N23, by rw [e23]; exact O23⟩ (by show _ ≤ 24; omega) (by show _ ≤ 128; omega)
        · rw [if_neg hc32] at hf
          refine Gl.on (B := T23.setTop (mkF m 147 #[.val (.int i0), .val (.int i1), .val (.int i2), .val (.int i3), .val (.int i4), .val (.int i5), .val (.int i6), .val (.int t0), .val (.ref (n0 + a3)), .val (.ref (n0 + x20)), .val (.ref (n0 + a21)), .val (.ref (n0 + x25)), .val (.int x28), .val (.int x29)] [(.int i6), (.int x29)])) (fun t k => ?_) ?_
          · show Steps p.tables e below (T23.setTop (mkF m 140 #[.val (.int i0), .val (.int i1), .val (.int i2), .val (.int i3), .val (.int i4), .val (.int i5), .val (.int i6), .val (.int t0), .val (.ref (n0 + a3)), .val (.ref (n0 + x20)), .val (.ref (n0 + a21)), .val (.ref (n0 + x25)), .val (.int x28), .val (.int x29)] [(.int x29)])) _
            refine XS.ifNo X23.here hx rfl (hb hby at_140) rfl ((if0 _ _).trans (flt hc32).1) ?_
            show Steps p.tables e below (T23.setTop (mkF m 143 #[.val (.int i0), .val (.int i1), .val (.int i2), .val (.int i3), .val (.int i4), .val (.int i5), .val (.int i6), .val (.int t0), .val (.ref (n0 + a3)), .val (.ref (n0 + x20)), .val (.ref (n0 + a21)), .val (.ref (n0 + x25)), .val (.int x28), .val (.int x29)] [])) _
            refine XS.iload X23.here hx rfl (hb hby at_143) rfl ?_
            show Steps p.tables e below (T23.setTop (mkF m 145 #[.val (.int i0), .val (.int i1), .val (.int i2), .val (.int i3), .val (.int i4), .val (.int i5), .val (.int i6), .val (.int t0), .val (.ref (n0 + a3)), .val (.ref (n0 + x20)), .val (.ref (n0 + a21)), .val (.ref (n0 + x25)), .val (.int x28), .val (.int x29)] [(.int x29)])) _
            refine XS.iload X23.here hx rfl (hb hby at_145) rfl ?_
            exact k
          by_cases hc33 : x29 < i6
          · rw [if_pos hc33] at hf
            refine Gl.on (B := T23.setTop (mkF m 154 #[.val (.int i0), .val (.int i1), .val (.int i2), .val (.int i3), .val (.int i4), .val (.int i5), .val (.int i6), .val (.int t0), .val (.ref (n0 + a3)), .val (.ref (n0 + x20)), .val (.ref (n0 + a21)), .val (.ref (n0 + x25)), .val (.int x28), .val (.int x29)] [(.int x29), (.int x28)])) (fun t k => ?_) ?_
            · show Steps p.tables e below (T23.setTop (mkF m 147 #[.val (.int i0), .val (.int i1), .val (.int i2), .val (.int i3), .val (.int i4), .val (.int i5), .val (.int i6), .val (.int t0), .val (.ref (n0 + a3)), .val (.ref (n0 + x20)), .val (.ref (n0 + a21)), .val (.ref (n0 + x25)), .val (.int x28), .val (.int x29)] [(.int i6), (.int x29)])) _
              refine XS.icmpNo X23.here hx rfl (hb hby at_147) rfl (tlt hc33).2.1 ?_
              show Steps p.tables e below (T23.setTop (mkF m 150 #[.val (.int i0), .val (.int i1), .val (.int i2), .val (.int i3), .val (.int i4), .val (.int i5), .val (.int i6), .val (.int t0), .val (.ref (n0 + a3)), .val (.ref (n0 + x20)), .val (.ref (n0 + a21)), .val (.ref (n0 + x25)), .val (.int x28), .val (.int x29)] [])) _
              refine XS.iload X23.here hx rfl (hb hby at_150) rfl ?_
              show Steps p.tables e below (T23.setTop (mkF m 152 #[.val (.int i0), .val (.int i1), .val (.int i2), .val (.int i3), .val (.int i4), .val (.int i5), .val (.int i6), .val (.int t0), .val (.ref (n0 + a3)), .val (.ref (n0 + x20)), .val (.ref (n0 + a21)), .val (.ref (n0 + x25)), .val (.int x28), .val (.int x29)] [(.int x28)])) _
              refine XS.iload X23.here hx rfl (hb hby at_152) rfl ?_
              exact k
            by_cases hc34 : x28 = x29
            · rw [if_pos hc34] at hf
              refine Gl.on (B := T23.setTop (mkF m 158 #[.val (.int i0), .val (.int i1), .val (.int i2), .val (.int i3), .val (.int i4), .val (.int i5), .val (.int i6), .val (.int t0), .val (.ref (n0 + a3)), .val (.ref (n0 + x20)), .val (.ref (n0 + a21)), .val (.ref (n0 + x25)), .val (.int x28), .val (.int x29)] [(.int (0 : Int32))])) (fun t k => ?_) ?_
              · show Steps p.tables e below (T23.setTop (mkF m 154 #[.val (.int i0), .val (.int i1), .val (.int i2), .val (.int i3), .val (.int i4), .val (.int i5), .val (.int i6), .val (.int t0), .val (.ref (n0 + a3)), .val (.ref (n0 + x20)), .val (.ref (n0 + a21)), .val (.ref (n0 + x25)), .val (.int x28), .val (.int x29)] [(.int x29), (.int x28)])) _
                refine XS.icmpNo X23.here hx rfl (hb hby at_154) rfl (teq hc34).2 ?_
                show Steps p.tables e below (T23.setTop (mkF m 157 #[.val (.int i0), .val (.int i1), .val (.int i2), .val (.int i3), .val (.int i4), .val (.int i5), .val (.int i6), .val (.int t0), .val (.ref (n0 + a3)), .val (.ref (n0 + x20)), .val (.ref (n0 + a21)), .val (.ref (n0 + x25)), .val (.int x28), .val (.int x29)] [])) _
                refine XS.iconst X23.here hx rfl (hb hby at_157) ?_
                exact k
              obtain ⟨rfl, rfl⟩ := own_inj hf
              exact Gl.outN X23 hx hlk (t := .boolean) hret (by simp) (hb hby at_158) ⟨rfl, N23, by rw [e23]; exact O23⟩ (by show _ ≤ 24; omega) (by show _ ≤ 128; omega)
            · rw [if_neg hc34] at hf
              obtain ⟨⟨x36, D35⟩, hq35, hf⟩ := own_bind hf
              obtain ⟨_, rfl, hf⟩ := own_letE hf
              obtain ⟨_, rfl, hf⟩ := own_letE hf
              obtain ⟨T35, h35, L35, X35, e35, O35, N35, st35⟩ := callSW X23 hx hZ (y := (⟨"com/example/pathweave/pathweave/core/PairIndexLargestTwoPinLaw", "ok", "([IIIII)Z"⟩ : MethodName)) hown (hw _ (List.mem_of_getElem? (i := 57) rfl)) (hw _ (List.mem_of_getElem? (i := 58) rfl)) (hw _ (List.mem_of_getElem? (i := 3) rfl)) (hw _ (List.mem_of_getElem? (i := 59) rfl)) (by decide) e23 O23 N23 (as' := [(.ref (n0 + a3)), (.int (0 : Int32)), (.int i6), (.int x28), (.int x29)]) (ct11 hw hq35) (W := 0) (kc := 0) (ks := 0) rfl rfl (by decide) (by decide) (g := (mkF m 168 #[.val (.int i0), .val (.int i1), .val (.int i2), .val (.int i3), .val (.int i4), .val (.int i5), .val (.int i6), .val (.int t0), .val (.ref (n0 + a3)), .val (.ref (n0 + x20)), .val (.ref (n0 + a21)), .val (.ref (n0 + x25)), .val (.int x28), .val (.int x29)] [(.int x29), (.int x28), (.int i6), (.int (0 : Int32)), (.ref (n0 + a3))])) rfl (by rw [hml]; rfl) (rest := []) (lenOf pd_8 rfl) rfl (by show 2 * 0 + _ ≤ _; exact Nat.le_of_eq rfl) (hb hby at_168) (by show _ + 0 ≤ 24; omega) (by show _ + 0 ≤ 128; omega)
              refine Gl.on (B := T35.setTop (mkF m 171 #[.val (.int i0), .val (.int i1), .val (.int i2), .val (.int i3), .val (.int i4), .val (.int i5), .val (.int i6), .val (.int t0), .val (.ref (n0 + a3)), .val (.ref (n0 + x20)), .val (.ref (n0 + a21)), .val (.ref (n0 + x25)), .val (.int x28), .val (.int x29)] [(.int x36)])) (fun t k => ?_) ?_
              · show Steps p.tables e below (T23.setTop (mkF m 154 #[.val (.int i0), .val (.int i1), .val (.int i2), .val (.int i3), .val (.int i4), .val (.int i5), .val (.int i6), .val (.int t0), .val (.ref (n0 + a3)), .val (.ref (n0 + x20)), .val (.ref (n0 + a21)), .val (.ref (n0 + x25)), .val (.int x28), .val (.int x29)] [(.int x29), (.int x28)])) _
                refine XS.icmpYes X23.here hx rfl (pc0 := 154) (pc' := 159) rfl (hb hby at_154) rfl (feq hc34).2 (by decide) (by decide) ?_
                show Steps p.tables e below (T23.setTop (mkF m 159 #[.val (.int i0), .val (.int i1), .val (.int i2), .val (.int i3), .val (.int i4), .val (.int i5), .val (.int i6), .val (.int t0), .val (.ref (n0 + a3)), .val (.ref (n0 + x20)), .val (.ref (n0 + a21)), .val (.ref (n0 + x25)), .val (.int x28), .val (.int x29)] [])) _
                refine XS.aload X23.here hx rfl (hb hby at_159) rfl rfl ?_
                show Steps p.tables e below (T23.setTop (mkF m 161 #[.val (.int i0), .val (.int i1), .val (.int i2), .val (.int i3), .val (.int i4), .val (.int i5), .val (.int i6), .val (.int t0), .val (.ref (n0 + a3)), .val (.ref (n0 + x20)), .val (.ref (n0 + a21)), .val (.ref (n0 + x25)), .val (.int x28), .val (.int x29)] [(.ref (n0 + a3))])) _
                refine XS.iconst X23.here hx rfl (hb hby at_161) ?_
                show Steps p.tables e below (T23.setTop (mkF m 162 #[.val (.int i0), .val (.int i1), .val (.int i2), .val (.int i3), .val (.int i4), .val (.int i5), .val (.int i6), .val (.int t0), .val (.ref (n0 + a3)), .val (.ref (n0 + x20)), .val (.ref (n0 + a21)), .val (.ref (n0 + x25)), .val (.int x28), .val (.int x29)] [(.int (0 : Int32)), (.ref (n0 + a3))])) _
                refine XS.iload X23.here hx rfl (hb hby at_162) rfl ?_
                show Steps p.tables e below (T23.setTop (mkF m 164 #[.val (.int i0), .val (.int i1), .val (.int i2), .val (.int i3), .val (.int i4), .val (.int i5), .val (.int i6), .val (.int t0), .val (.ref (n0 + a3)), .val (.ref (n0 + x20)), .val (.ref (n0 + a21)), .val (.ref (n0 + x25)), .val (.int x28), .val (.int x29)] [(.int i6), (.int (0 : Int32)), (.ref (n0 + a3))])) _
                refine XS.iload X23.here hx rfl (hb hby at_164) rfl ?_
                show Steps p.tables e below (T23.setTop (mkF m 166 #[.val (.int i0), .val (.int i1), .val (.int i2), .val (.int i3), .val (.int i4), .val (.int i5), .val (.int i6), .val (.int t0), .val (.ref (n0 + a3)), .val (.ref (n0 + x20)), .val (.ref (n0 + a21)), .val (.ref (n0 + x25)), .val (.int x28), .val (.int x29)] [(.int x28), (.int i6), (.int (0 : Int32)), (.ref (n0 + a3))])) _
                refine XS.iload X23.here hx rfl (hb hby at_166) rfl ?_
                show Steps p.tables e below (T23.setTop (mkF m 168 #[.val (.int i0), .val (.int i1), .val (.int i2), .val (.int i3), .val (.int i4), .val (.int i5), .val (.int i6), .val (.int t0), .val (.ref (n0 + a3)), .val (.ref (n0 + x20)), .val (.ref (n0 + a21)), .val (.ref (n0 + x25)), .val (.int x28), .val (.int x29)] [(.int x29), (.int x28), (.int i6), (.int (0 : Int32)), (.ref (n0 + a3))])) _
                refine st35 _ ?_
                exact k
              by_cases hc37 : x36 = (0 : Int32)
              · rw [if_pos hc37] at hf
                refine Gl.on (B := T35.setTop (mkF m 239 #[.val (.int i0), .val (.int i1), .val (.int i2), .val (.int i3), .val (.int i4), .val (.int i5), .val (.int i6), .val (.int t0), .val (.ref (n0 + a3)), .val (.ref (n0 + x20)), .val (.ref (n0 + a21)), .val (.ref (n0 + x25)), .val (.int x28), .val (.int x29)] [(.int (0 : Int32))])) (fun t k => ?_) ?_
                · show Steps p.tables e below (T35.setTop (mkF m 171 #[.val (.int i0), .val (.int i1), .val (.int i2), .val (.int i3), .val (.int i4), .val (.int i5), .val (.int i6), .val (.int t0), .val (.ref (n0 + a3)), .val (.ref (n0 + x20)), .val (.ref (n0 + a21)), .val (.ref (n0 + x25)), .val (.int x28), .val (.int x29)] [(.int x36)])) _
                  refine XS.ifYes X35.here hx rfl (pc0 := 171) (pc' := 238) rfl (hb hby at_171) rfl ((if0 _ _).trans (teq hc37).1) (by decide) (by decide) ?_
                  show Steps p.tables e below (T35.setTop (mkF m 238 #[.val (.int i0), .val (.int i1), .val (.int i2), .val (.int i3), .val (.int i4), .val (.int i5), .val (.int i6), .val (.int t0), .val (.ref (n0 + a3)), .val (.ref (n0 + x20)), .val (.ref (n0 + a21)), .val (.ref (n0 + x25)), .val (.int x28), .val (.int x29)] [])) _
                  refine XS.iconst X35.here hx rfl (hb hby at_238) ?_
                  exact k
                obtain ⟨rfl, rfl⟩ := own_inj hf
                exact Gl.outN X35 hx hlk (t := .boolean) hret (by simp) (hb hby at_239) ⟨rfl, N35, by rw [e35]; exact O35⟩ (by show _ ≤ 24; omega) (by show _ ≤ 128; omega)
              · rw [if_neg hc37] at hf
                obtain ⟨⟨x39, D38⟩, hq38, hf⟩ := own_bind hf
                obtain ⟨_, rfl, hf⟩ := own_letE hf
                obtain ⟨_, rfl, hf⟩ := own_letE hf
                obtain ⟨T38, h38, L38, X38, e38, O38, N38, st38⟩ := callSW X35 hx hZ (y := (⟨"com/example/pathweave/pathweave/core/PairIndexLargestTwoPinLaw", "ok", "([IIIII)Z"⟩ : MethodName)) hown (hw _ (List.mem_of_getElem? (i := 57) rfl)) (hw _ (List.mem_of_getElem? (i := 58) rfl)) (hw _ (List.mem_of_getElem? (i := 3) rfl)) (hw _ (List.mem_of_getElem? (i := 59) rfl)) (by decide) e35 O35 N35 (as' := [(.ref (n0 + a3)), (.int (1 : Int32)), (.int i6), (.int x28), (.int x29)]) (ct11 hw hq38) (W := 0) (kc := 0) (ks := 0) rfl rfl (by decide) (by decide) (g := (mkF m 183 #[.val (.int i0), .val (.int i1), .val (.int i2), .val (.int i3), .val (.int i4), .val (.int i5), .val (.int i6), .val (.int t0), .val (.ref (n0 + a3)), .val (.ref (n0 + x20)), .val (.ref (n0 + a21)), .val (.ref (n0 + x25)), .val (.int x28), .val (.int x29)] [(.int x29), (.int x28), (.int i6), (.int (1 : Int32)), (.ref (n0 + a3))])) rfl (by rw [hml]; rfl) (rest := []) (lenOf pd_8 rfl) rfl (by show 2 * 0 + _ ≤ _; exact Nat.le_of_eq rfl) (hb hby at_183) (by show _ + 0 ≤ 24; omega) (by show _ + 0 ≤ 128; omega)
                refine Gl.on (B := T38.setTop (mkF m 186 #[.val (.int i0), .val (.int i1), .val (.int i2), .val (.int i3), .val (.int i4), .val (.int i5), .val (.int i6), .val (.int t0), .val (.ref (n0 + a3)), .val (.ref (n0 + x20)), .val (.ref (n0 + a21)), .val (.ref (n0 + x25)), .val (.int x28), .val (.int x29)] [(.int x39)])) (fun t k => ?_) ?_
                · show Steps p.tables e below (T35.setTop (mkF m 171 #[.val (.int i0), .val (.int i1), .val (.int i2), .val (.int i3), .val (.int i4), .val (.int i5), .val (.int i6), .val (.int t0), .val (.ref (n0 + a3)), .val (.ref (n0 + x20)), .val (.ref (n0 + a21)), .val (.ref (n0 + x25)), .val (.int x28), .val (.int x29)] [(.int x36)])) _
                  refine XS.ifNo X35.here hx rfl (hb hby at_171) rfl ((if0 _ _).trans (feq hc37).1) ?_
                  show Steps p.tables e below (T35.setTop (mkF m 174 #[.val (.int i0), .val (.int i1), .val (.int i2), .val (.int i3), .val (.int i4), .val (.int i5), .val (.int i6), .val (.int t0), .val (.ref (n0 + a3)), .val (.ref (n0 + x20)), .val (.ref (n0 + a21)), .val (.ref (n0 + x25)), .val (.int x28), .val (.int x29)] [])) _
                  refine XS.aload X35.here hx rfl (hb hby at_174) rfl rfl ?_
                  show Steps p.tables e below (T35.setTop (mkF m 176 #[.val (.int i0), .val (.int i1), .val (.int i2), .val (.int i3), .val (.int i4), .val (.int i5), .val (.int i6), .val (.int t0), .val (.ref (n0 + a3)), .val (.ref (n0 + x20)), .val (.ref (n0 + a21)), .val (.ref (n0 + x25)), .val (.int x28), .val (.int x29)] [(.ref (n0 + a3))])) _
                  refine XS.iconst X35.here hx rfl (hb hby at_176) ?_
                  show Steps p.tables e below (T35.setTop (mkF m 177 #[.val (.int i0), .val (.int i1), .val (.int i2), .val (.int i3), .val (.int i4), .val (.int i5), .val (.int i6), .val (.int t0), .val (.ref (n0 + a3)), .val (.ref (n0 + x20)), .val (.ref (n0 + a21)), .val (.ref (n0 + x25)), .val (.int x28), .val (.int x29)] [(.int (1 : Int32)), (.ref (n0 + a3))])) _
                  refine XS.iload X35.here hx rfl (hb hby at_177) rfl ?_
                  show Steps p.tables e below (T35.setTop (mkF m 179 #[.val (.int i0), .val (.int i1), .val (.int i2), .val (.int i3), .val (.int i4), .val (.int i5), .val (.int i6), .val (.int t0), .val (.ref (n0 + a3)), .val (.ref (n0 + x20)), .val (.ref (n0 + a21)), .val (.ref (n0 + x25)), .val (.int x28), .val (.int x29)] [(.int i6), (.int (1 : Int32)), (.ref (n0 + a3))])) _
                  refine XS.iload X35.here hx rfl (hb hby at_179) rfl ?_
                  show Steps p.tables e below (T35.setTop (mkF m 181 #[.val (.int i0), .val (.int i1), .val (.int i2), .val (.int i3), .val (.int i4), .val (.int i5), .val (.int i6), .val (.int t0), .val (.ref (n0 + a3)), .val (.ref (n0 + x20)), .val (.ref (n0 + a21)), .val (.ref (n0 + x25)), .val (.int x28), .val (.int x29)] [(.int x28), (.int i6), (.int (1 : Int32)), (.ref (n0 + a3))])) _
                  refine XS.iload X35.here hx rfl (hb hby at_181) rfl ?_
                  show Steps p.tables e below (T35.setTop (mkF m 183 #[.val (.int i0), .val (.int i1), .val (.int i2), .val (.int i3), .val (.int i4), .val (.int i5), .val (.int i6), .val (.int t0), .val (.ref (n0 + a3)), .val (.ref (n0 + x20)), .val (.ref (n0 + a21)), .val (.ref (n0 + x25)), .val (.int x28), .val (.int x29)] [(.int x29), (.int x28), (.int i6), (.int (1 : Int32)), (.ref (n0 + a3))])) _
                  refine st38 _ ?_
                  exact k
                by_cases hc40 : x39 = (0 : Int32)
                · rw [if_pos hc40] at hf
                  refine Gl.on (B := T38.setTop (mkF m 239 #[.val (.int i0), .val (.int i1), .val (.int i2), .val (.int i3), .val (.int i4), .val (.int i5), .val (.int i6), .val (.int t0), .val (.ref (n0 + a3)), .val (.ref (n0 + x20)), .val (.ref (n0 + a21)), .val (.ref (n0 + x25)), .val (.int x28), .val (.int x29)] [(.int (0 : Int32))])) (fun t k => ?_) ?_
                  · show Steps p.tables e below (T38.setTop (mkF m 186 #[.val (.int i0), .val (.int i1), .val (.int i2), .val (.int i3), .val (.int i4), .val (.int i5), .val (.int i6), .val (.int t0), .val (.ref (n0 + a3)), .val (.ref (n0 + x20)), .val (.ref (n0 + a21)), .val (.ref (n0 + x25)), .val (.int x28), .val (.int x29)] [(.int x39)])) _
                    refine XS.ifYes X38.here hx rfl (pc0 := 186) (pc' := 238) rfl (hb hby at_186) rfl ((if0 _ _).trans (teq hc40).1) (by decide) (by decide) ?_
                    show Steps p.tables e below (T38.setTop (mkF m 238 #[.val (.int i0), .val (.int i1), .val (.int i2), .val (.int i3), .val (.int i4), .val (.int i5), .val (.int i6), .val (.int t0), .val (.ref (n0 + a3)), .val (.ref (n0 + x20)), .val (.ref (n0 + a21)), .val (.ref (n0 + x25)), .val (.int x28), .val (.int x29)] [])) _
                    refine XS.iconst X38.here hx rfl (hb hby at_238) ?_
                    exact k
                  obtain ⟨rfl, rfl⟩ := own_inj hf
                  exact Gl.outN X38 hx hlk (t := .boolean) hret (by simp) (hb hby at_239) ⟨rfl, N38, by rw [e38]; exact O38⟩ (by show _ ≤ 24; omega) (by show _ ≤ 128; omega)
                · rw [if_neg hc40] at hf
                  obtain ⟨⟨x42, D41⟩, hq41, hf⟩ := own_bind hf
                  obtain ⟨_, rfl, hf⟩ := own_letE hf
                  obtain ⟨_, rfl, hf⟩ := own_letE hf
                  obtain ⟨T41, h41, L41, X41, e41, O41, N41, st41⟩ := callSW X38 hx hZ (y := (⟨"com/example/pathweave/pathweave/core/PairIndexLargestTwoPinLaw", "ok", "([IIIII)Z"⟩ : MethodName)) hown (hw _ (List.mem_of_getElem? (i := 57) rfl)) (hw _ (List.mem_of_getElem? (i := 58) rfl)) (hw _ (List.mem_of_getElem? (i := 3) rfl)) (hw _ (List.mem_of_getElem? (i := 59) rfl)) (by decide) e38 O38 N38 (as' := [(.ref (n0 + a3)), (.int (2 : Int32)), (.int i6), (.int x28), (.int x29)]) (ct11 hw hq41) (W := 0) (kc := 0) (ks := 0) rfl rfl (by decide) (by decide) (g := (mkF m 198 #[.val (.int i0), .val (.int i1), .val (.int i2), .val (.int i3), .val (.int i4), .val (.int i5), .val (.int i6), .val (.int t0), .val (.ref (n0 + a3)), .val (.ref (n0 + x20)), .val (.ref (n0 + a21)), .val (.ref (n0 + x25)), .val (.int x28), .val (.int x29)] [(.int x29), (.int x28), (.int i6), (.int (2 : Int32)), (.ref (n0 + a3))])) rfl (by rw [hml]; rfl) (rest := []) (lenOf pd_8 rfl) rfl (by show 2 * 0 + _ ≤ _; exact Nat.le_of_eq rfl) (hb hby at_198) (by show _ + 0 ≤ 24; omega) (by show _ + 0 ≤ 128; omega)
                  refine Gl.on (B := T41.setTop (mkF m 201 #[.val (.int i0), .val (.int i1), .val (.int i2), .val (.int i3), .val (.int i4), .val (.int i5), .val (.int i6), .val (.int t0), .val (.ref (n0 + a3)), .val (.ref (n0 + x20)), .val (.ref (n0 + a21)), .val (.ref (n0 + x25)), .val (.int x28), .val (.int x29)] [(.int x42)])) (fun t k => ?_) ?_
                  · show Steps p.tables e below (T38.setTop (mkF m 186 #[.val (.int i0), .val (.int i1), .val (.int i2), .val (.int i3), .val (.int i4), .val (.int i5), .val (.int i6), .val (.int t0), .val (.ref (n0 + a3)), .val (.ref (n0 + x20)), .val (.ref (n0 + a21)), .val (.ref (n0 + x25)), .val (.int x28), .val (.int x29)] [(.int x39)])) _
                    refine XS.ifNo X38.here hx rfl (hb hby at_186) rfl ((if0 _ _).trans (feq hc40).1) ?_
                    show Steps p.tables e below (T38.setTop (mkF m 189 #[.val (.int i0), .val (.int i1), .val (.int i2), .val (.int i3), .val (.int i4), .val (.int i5), .val (.int i6), .val (.int t0), .val (.ref (n0 + a3)), .val (.ref (n0 + x20)), .val (.ref (n0 + a21)), .val (.ref (n0 + x25)), .val (.int x28), .val (.int x29)] [])) _
                    refine XS.aload X38.here hx rfl (hb hby at_189) rfl rfl ?_
                    show Steps p.tables e below (T38.setTop (mkF m 191 #[.val (.int i0), .val (.int i1), .val (.int i2), .val (.int i3), .val (.int i4), .val (.int i5), .val (.int i6), .val (.int t0), .val (.ref (n0 + a3)), .val (.ref (n0 + x20)), .val (.ref (n0 + a21)), .val (.ref (n0 + x25)), .val (.int x28), .val (.int x29)] [(.ref (n0 + a3))])) _
                    refine XS.iconst X38.here hx rfl (hb hby at_191) ?_
                    show Steps p.tables e below (T38.setTop (mkF m 192 #[.val (.int i0), .val (.int i1), .val (.int i2), .val (.int i3), .val (.int i4), .val (.int i5), .val (.int i6), .val (.int t0), .val (.ref (n0 + a3)), .val (.ref (n0 + x20)), .val (.ref (n0 + a21)), .val (.ref (n0 + x25)), .val (.int x28), .val (.int x29)] [(.int (2 : Int32)), (.ref (n0 + a3))])) _
                    refine XS.iload X38.here hx rfl (hb hby at_192) rfl ?_
                    show Steps p.tables e below (T38.setTop (mkF m 194 #[.val (.int i0), .val (.int i1), .val (.int i2), .val (.int i3), .val (.int i4), .val (.int i5), .val (.int i6), .val (.int t0), .val (.ref (n0 + a3)), .val (.ref (n0 + x20)), .val (.ref (n0 + a21)), .val (.ref (n0 + x25)), .val (.int x28), .val (.int x29)] [(.int i6), (.int (2 : Int32)), (.ref (n0 + a3))])) _
                    refine XS.iload X38.here hx rfl (hb hby at_194) rfl ?_
                    show Steps p.tables e below (T38.setTop (mkF m 196 #[.val (.int i0), .val (.int i1), .val (.int i2), .val (.int i3), .val (.int i4), .val (.int i5), .val (.int i6), .val (.int t0), .val (.ref (n0 + a3)), .val (.ref (n0 + x20)), .val (.ref (n0 + a21)), .val (.ref (n0 + x25)), .val (.int x28), .val (.int x29)] [(.int x28), (.int i6), (.int (2 : Int32)), (.ref (n0 + a3))])) _
                    refine XS.iload X38.here hx rfl (hb hby at_196) rfl ?_
                    show Steps p.tables e below (T38.setTop (mkF m 198 #[.val (.int i0), .val (.int i1), .val (.int i2), .val (.int i3), .val (.int i4), .val (.int i5), .val (.int i6), .val (.int t0), .val (.ref (n0 + a3)), .val (.ref (n0 + x20)), .val (.ref (n0 + a21)), .val (.ref (n0 + x25)), .val (.int x28), .val (.int x29)] [(.int x29), (.int x28), (.int i6), (.int (2 : Int32)), (.ref (n0 + a3))])) _
                    refine st41 _ ?_
                    exact k
                  by_cases hc43 : x42 = (0 : Int32)
                  · rw [if_pos hc43] at hf
                    refine Gl.on (B := T41.setTop (mkF m 239 #[.val (.int i0), .val (.int i1), .val (.int i2), .val (.int i3), .val (.int i4), .val (.int i5), .val (.int i6), .val (.int t0), .val (.ref (n0 + a3)), .val (.ref (n0 + x20)), .val (.ref (n0 + a21)), .val (.ref (n0 + x25)), .val (.int x28), .val (.int x29)] [(.int (0 : Int32))])) (fun t k => ?_) ?_
                    · show Steps p.tables e below (T41.setTop (mkF m 201 #[.val (.int i0), .val (.int i1), .val (.int i2), .val (.int i3), .val (.int i4), .val (.int i5), .val (.int i6), .val (.int t0), .val (.ref (n0 + a3)), .val (.ref (n0 + x20)), .val (.ref (n0 + a21)), .val (.ref (n0 + x25)), .val (.int x28), .val (.int x29)] [(.int x42)])) _
                      refine XS.ifYes X41.here hx rfl (pc0 := 201) (pc' := 238) rfl (hb hby at_201) rfl ((if0 _ _).trans (teq hc43).1) (by decide) (by decide) ?_
                      show Steps p.tables e below (T41.setTop (mkF m 238 #[.val (.int i0), .val (.int i1), .val (.int i2), .val (.int i3), .val (.int i4), .val (.int i5), .val (.int i6), .val (.int t0), .val (.ref (n0 + a3)), .val (.ref (n0 + x20)), .val (.ref (n0 + a21)), .val (.ref (n0 + x25)), .val (.int x28), .val (.int x29)] [])) _
                      refine XS.iconst X41.here hx rfl (hb hby at_238) ?_
                      exact k
                    obtain ⟨rfl, rfl⟩ := own_inj hf
                    exact Gl.outN X41 hx hlk (t := .boolean) hret (by simp) (hb hby at_239) ⟨rfl, N41, by rw [e41]; exact O41⟩ (by show _ ≤ 24; omega) (by show _ ≤ 128; omega)
                  · rw [if_neg hc43] at hf
                    obtain ⟨⟨x45, D44⟩, hq44, hf⟩ := own_bind hf
                    obtain ⟨_, rfl, hf⟩ := own_letE hf
                    obtain ⟨_, rfl, hf⟩ := own_letE hf
                    obtain ⟨T44, h44, L44, X44, e44, O44, N44, st44⟩ := callSW X41 hx hZ (y := (⟨"com/example/pathweave/pathweave/core/PairIndexLargestTwoPinLaw", "ok", "([IIIII)Z"⟩ : MethodName)) hown (hw _ (List.mem_of_getElem? (i := 57) rfl)) (hw _ (List.mem_of_getElem? (i := 58) rfl)) (hw _ (List.mem_of_getElem? (i := 3) rfl)) (hw _ (List.mem_of_getElem? (i := 59) rfl)) (by decide) e41 O41 N41 (as' := [(.ref (n0 + a3)), (.int (3 : Int32)), (.int i6), (.int x28), (.int x29)]) (ct11 hw hq44) (W := 0) (kc := 0) (ks := 0) rfl rfl (by decide) (by decide) (g := (mkF m 213 #[.val (.int i0), .val (.int i1), .val (.int i2), .val (.int i3), .val (.int i4), .val (.int i5), .val (.int i6), .val (.int t0), .val (.ref (n0 + a3)), .val (.ref (n0 + x20)), .val (.ref (n0 + a21)), .val (.ref (n0 + x25)), .val (.int x28), .val (.int x29)] [(.int x29), (.int x28), (.int i6), (.int (3 : Int32)), (.ref (n0 + a3))])) rfl (by rw [hml]; rfl) (rest := []) (lenOf pd_8 rfl) rfl (by show 2 * 0 + _ ≤ _; exact Nat.le_of_eq rfl) (hb hby at_213) (by show _ + 0 ≤ 24; omega) (by show _ + 0 ≤ 128; omega)
                    refine Gl.on (B := T44.setTop (mkF m 216 #[.val (.int i0), .val (.int i1), .val (.int i2), .val (.int i3), .val (.int i4), .val (.int i5), .val (.int i6), .val (.int t0), .val (.ref (n0 + a3)), .val (.ref (n0 + x20)), .val (.ref (n0 + a21)), .val (.ref (n0 + x25)), .val (.int x28), .val (.int x29)] [(.int x45)])) (fun t k => ?_) ?_
                    · show Steps p.tables e below (T41.setTop (mkF m 201 #[.val (.int i0), .val (.int i1), .val (.int i2), .val (.int i3), .val (.int i4), .val (.int i5), .val (.int i6), .val (.int t0), .val (.ref (n0 + a3)), .val (.ref (n0 + x20)), .val (.ref (n0 + a21)), .val (.ref (n0 + x25)), .val (.int x28), .val (.int x29)] [(.int x42)])) _
                      refine XS.ifNo X41.here hx rfl (hb hby at_201) rfl ((if0 _ _).trans (feq hc43).1) ?_
                      show Steps p.tables e below (T41.setTop (mkF m 204 #[.val (.int i0), .val (.int i1), .val (.int i2), .val (.int i3), .val (.int i4), .val (.int i5), .val (.int i6), .val (.int t0), .val (.ref (n0 + a3)), .val (.ref (n0 + x20)), .val (.ref (n0 + a21)), .val (.ref (n0 + x25)), .val (.int x28), .val (.int x29)] [])) _
                      refine XS.aload X41.here hx rfl (hb hby at_204) rfl rfl ?_
                      show Steps p.tables e below (T41.setTop (mkF m 206 #[.val (.int i0), .val (.int i1), .val (.int i2), .val (.int i3), .val (.int i4), .val (.int i5), .val (.int i6), .val (.int t0), .val (.ref (n0 + a3)), .val (.ref (n0 + x20)), .val (.ref (n0 + a21)), .val (.ref (n0 + x25)), .val (.int x28), .val (.int x29)] [(.ref (n0 + a3))])) _
                      refine XS.iconst X41.here hx rfl (hb hby at_206) ?_
                      show Steps p.tables e below (T41.setTop (mkF m 207 #[.val (.int i0), .val (.int i1), .val (.int i2), .val (.int i3), .val (.int i4), .val (.int i5), .val (.int i6), .val (.int t0), .val (.ref (n0 + a3)), .val (.ref (n0 + x20)), .val (.ref (n0 + a21)), .val (.ref (n0 + x25)), .val (.int x28), .val (.int x29)] [(.int (3 : Int32)), (.ref (n0 + a3))])) _
                      refine XS.iload X41.here hx rfl (hb hby at_207) rfl ?_
                      show Steps p.tables e below (T41.setTop (mkF m 209 #[.val (.int i0), .val (.int i1), .val (.int i2), .val (.int i3), .val (.int i4), .val (.int i5), .val (.int i6), .val (.int t0), .val (.ref (n0 + a3)), .val (.ref (n0 + x20)), .val (.ref (n0 + a21)), .val (.ref (n0 + x25)), .val (.int x28), .val (.int x29)] [(.int i6), (.int (3 : Int32)), (.ref (n0 + a3))])) _
                      refine XS.iload X41.here hx rfl (hb hby at_209) rfl ?_
                      show Steps p.tables e below (T41.setTop (mkF m 211 #[.val (.int i0), .val (.int i1), .val (.int i2), .val (.int i3), .val (.int i4), .val (.int i5), .val (.int i6), .val (.int t0), .val (.ref (n0 + a3)), .val (.ref (n0 + x20)), .val (.ref (n0 + a21)), .val (.ref (n0 + x25)), .val (.int x28), .val (.int x29)] [(.int x28), (.int i6), (.int (3 : Int32)), (.ref (n0 + a3))])) _
                      refine XS.iload X41.here hx rfl (hb hby at_211) rfl ?_
                      show Steps p.tables e below (T41.setTop (mkF m 213 #[.val (.int i0), .val (.int i1), .val (.int i2), .val (.int i3), .val (.int i4), .val (.int i5), .val (.int i6), .val (.int t0), .val (.ref (n0 + a3)), .val (.ref (n0 + x20)), .val (.ref (n0 + a21)), .val (.ref (n0 + x25)), .val (.int x28), .val (.int x29)] [(.int x29), (.int x28), (.int i6), (.int (3 : Int32)), (.ref (n0 + a3))])) _
                      refine st44 _ ?_
                      exact k
                    by_cases hc46 : x45 = (0 : Int32)
                    · rw [if_pos hc46] at hf
                      refine Gl.on (B := T44.setTop (mkF m 239 #[.val (.int i0), .val (.int i1), .val (.int i2), .val (.int i3), .val (.int i4), .val (.int i5), .val (.int i6), .val (.int t0), .val (.ref (n0 + a3)), .val (.ref (n0 + x20)), .val (.ref (n0 + a21)), .val (.ref (n0 + x25)), .val (.int x28), .val (.int x29)] [(.int (0 : Int32))])) (fun t k => ?_) ?_
                      · show Steps p.tables e below (T44.setTop (mkF m 216 #[.val (.int i0), .val (.int i1), .val (.int i2), .val (.int i3), .val (.int i4), .val (.int i5), .val (.int i6), .val (.int t0), .val (.ref (n0 + a3)), .val (.ref (n0 + x20)), .val (.ref (n0 + a21)), .val (.ref (n0 + x25)), .val (.int x28), .val (.int x29)] [(.int x45)])) _
                        refine XS.ifYes X44.here hx rfl (pc0 := 216) (pc' := 238) rfl (hb hby at_216) rfl ((if0 _ _).trans (teq hc46).1) (by decide) (by decide) ?_
                        show Steps p.tables e below (T44.setTop (mkF m 238 #[.val (.int i0), .val (.int i1), .val (.int i2), .val (.int i3), .val (.int i4), .val (.int i5), .val (.int i6), .val (.int t0), .val (.ref (n0 + a3)), .val (.ref (n0 + x20)), .val (.ref (n0 + a21)), .val (.ref (n0 + x25)), .val (.int x28), .val (.int x29)] [])) _
                        refine XS.iconst X44.here hx rfl (hb hby at_238) ?_
                        exact k
                      obtain ⟨rfl, rfl⟩ := own_inj hf
                      exact Gl.outN X44 hx hlk (t := .boolean) hret (by simp) (hb hby at_239) ⟨rfl, N44, by rw [e44]; exact O44⟩ (by show _ ≤ 24; omega) (by show _ ≤ 128; omega)
                    · rw [if_neg hc46] at hf
                      obtain ⟨⟨x48, D47⟩, hq47, hf⟩ := own_bind hf
                      obtain ⟨_, rfl, hf⟩ := own_letE hf
                      obtain ⟨_, rfl, hf⟩ := own_letE hf
                      obtain ⟨T47, h47, L47, X47, e47, O47, N47, st47⟩ := callSW X44 hx hZ (y := (⟨"com/example/pathweave/pathweave/core/PairIndexLargestTwoPinLaw", "ok", "([IIIII)Z"⟩ : MethodName)) hown (hw _ (List.mem_of_getElem? (i := 57) rfl)) (hw _ (List.mem_of_getElem? (i := 58) rfl)) (hw _ (List.mem_of_getElem? (i := 3) rfl)) (hw _ (List.mem_of_getElem? (i := 59) rfl)) (by decide) e44 O44 N44 (as' := [(.ref (n0 + a3)), (.int (4 : Int32)), (.int i6), (.int x28), (.int x29)]) (ct11 hw hq47) (W := 0) (kc := 0) (ks := 0) rfl rfl (by decide) (by decide) (g := (mkF m 228 #[.val (.int i0), .val (.int i1), .val (.int i2), .val (.int i3), .val (.int i4), .val (.int i5), .val (.int i6), .val (.int t0), .val (.ref (n0 + a3)), .val (.ref (n0 + x20)), .val (.ref (n0 + a21)), .val (.ref (n0 + x25)), .val (.int x28), .val (.int x29)] [(.int x29), (.int x28), (.int i6), (.int (4 : Int32)), (.ref (n0 + a3))])) rfl (by rw [hml]; rfl) (rest := []) (lenOf pd_8 rfl) rfl (by show 2 * 0 + _ ≤ _; exact Nat.le_of_eq rfl) (hb hby at_228) (by show _ + 0 ≤ 24; omega) (by show _ + 0 ≤ 128; omega)
                      refine Gl.on (B := T47.setTop (mkF m 231 #[.val (.int i0), .val (.int i1), .val (.int i2), .val (.int i3), .val (.int i4), .val (.int i5), .val (.int i6), .val (.int t0), .val (.ref (n0 + a3)), .val (.ref (n0 + x20)), .val (.ref (n0 + a21)), .val (.ref (n0 + x25)), .val (.int x28), .val (.int x29)] [(.int x48)])) (fun t k => ?_) ?_
                      · show Steps p.tables e below (T44.setTop (mkF m 216 #[.val (.int i0), .val (.int i1), .val (.int i2), .val (.int i3), .val (.int i4), .val (.int i5), .val (.int i6), .val (.int t0), .val (.ref (n0 + a3)), .val (.ref (n0 + x20)), .val (.ref (n0 + a21)), .val (.ref (n0 + x25)), .val (.int x28), .val (.int x29)] [(.int x45)])) _
                        refine XS.ifNo X44.here hx rfl (hb hby at_216) rfl ((if0 _ _).trans (feq hc46).1) ?_
                        show Steps p.tables e below (T44.setTop (mkF m 219 #[.val (.int i0), .val (.int i1), .val (.int i2), .val (.int i3), .val (.int i4), .val (.int i5), .val (.int i6), .val (.int t0), .val (.ref (n0 + a3)), .val (.ref (n0 + x20)), .val (.ref (n0 + a21)), .val (.ref (n0 + x25)), .val (.int x28), .val (.int x29)] [])) _
                        refine XS.aload X44.here hx rfl (hb hby at_219) rfl rfl ?_
                        show Steps p.tables e below (T44.setTop (mkF m 221 #[.val (.int i0), .val (.int i1), .val (.int i2), .val (.int i3), .val (.int i4), .val (.int i5), .val (.int i6), .val (.int t0), .val (.ref (n0 + a3)), .val (.ref (n0 + x20)), .val (.ref (n0 + a21)), .val (.ref (n0 + x25)), .val (.int x28), .val (.int x29)] [(.ref (n0 + a3))])) _
                        refine XS.iconst X44.here hx rfl (hb hby at_221) ?_
                        show Steps p.tables e below (T44.setTop (mkF m 222 #[.val (.int i0), .val (.int i1), .val (.int i2), .val (.int i3), .val (.int i4), .val (.int i5), .val (.int i6), .val (.int t0), .val (.ref (n0 + a3)), .val (.ref (n0 + x20)), .val (.ref (n0 + a21)), .val (.ref (n0 + x25)), .val (.int x28), .val (.int x29)] [(.int (4 : Int32)), (.ref (n0 + a3))])) _
                        refine XS.iload X44.here hx rfl (hb hby at_222) rfl ?_
                        show Steps p.tables e below (T44.setTop (mkF m 224 #[.val (.int i0), .val (.int i1), .val (.int i2), .val (.int i3), .val (.int i4), .val (.int i5), .val (.int i6), .val (.int t0), .val (.ref (n0 + a3)), .val (.ref (n0 + x20)), .val (.ref (n0 + a21)), .val (.ref (n0 + x25)), .val (.int x28), .val (.int x29)] [(.int i6), (.int (4 : Int32)), (.ref (n0 + a3))])) _
                        refine XS.iload X44.here hx rfl (hb hby at_224) rfl ?_
                        show Steps p.tables e below (T44.setTop (mkF m 226 #[.val (.int i0), .val (.int i1), .val (.int i2), .val (.int i3), .val (.int i4), .val (.int i5), .val (.int i6), .val (.int t0), .val (.ref (n0 + a3)), .val (.ref (n0 + x20)), .val (.ref (n0 + a21)), .val (.ref (n0 + x25)), .val (.int x28), .val (.int x29)] [(.int x28), (.int i6), (.int (4 : Int32)), (.ref (n0 + a3))])) _
                        refine XS.iload X44.here hx rfl (hb hby at_226) rfl ?_
                        show Steps p.tables e below (T44.setTop (mkF m 228 #[.val (.int i0), .val (.int i1), .val (.int i2), .val (.int i3), .val (.int i4), .val (.int i5), .val (.int i6), .val (.int t0), .val (.ref (n0 + a3)), .val (.ref (n0 + x20)), .val (.ref (n0 + a21)), .val (.ref (n0 + x25)), .val (.int x28), .val (.int x29)] [(.int x29), (.int x28), (.int i6), (.int (4 : Int32)), (.ref (n0 + a3))])) _
                        refine st47 _ ?_
                        exact k
                      by_cases hc49 : x48 = (0 : Int32)
                      · rw [if_pos hc49] at hf
                        refine Gl.on (B := T47.setTop (mkF m 239 #[.val (.int i0), .val (.int i1), .val (.int i2), .val (.int i3), .val (.int i4), .val (.int i5), .val (.int i6), .val (.int t0), .val (.ref (n0 + a3)), .val (.ref (n0 + x20)), .val (.ref (n0 + a21)), .val (.ref (n0 + x25)), .val (.int x28), .val (.int x29)] [(.int (0 : Int32))])) (fun t k => ?_) ?_
                        · show Steps p.tables e below (T47.setTop (mkF m 231 #[.val (.int i0), .val (.int i1), .val (.int i2), .val (.int i3), .val (.int i4), .val (.int i5), .val (.int i6), .val (.int t0), .val (.ref (n0 + a3)), .val (.ref (n0 + x20)), .val (.ref (n0 + a21)), .val (.ref (n0 + x25)), .val (.int x28), .val (.int x29)] [(.int x48)])) _
                          refine XS.ifYes X47.here hx rfl (pc0 := 231) (pc' := 238) rfl (hb hby at_231) rfl ((if0 _ _).trans (teq hc49).1) (by decide) (by decide) ?_
                          show Steps p.tables e below (T47.setTop (mkF m 238 #[.val (.int i0), .val (.int i1), .val (.int i2), .val (.int i3), .val (.int i4), .val (.int i5), .val (.int i6), .val (.int t0), .val (.ref (n0 + a3)), .val (.ref (n0 + x20)), .val (.ref (n0 + a21)), .val (.ref (n0 + x25)), .val (.int x28), .val (.int x29)] [])) _
                          refine XS.iconst X47.here hx rfl (hb hby at_238) ?_
                          exact k
                        obtain ⟨rfl, rfl⟩ := own_inj hf
                        exact Gl.outN X47 hx hlk (t := .boolean) hret (by simp) (hb hby at_239) ⟨rfl, N47, by rw [e47]; exact O47⟩ (by show _ ≤ 24; omega) (by show _ ≤ 128; omega)
                      · rw [if_neg hc49] at hf
                        refine Gl.on (B := T47.setTop (mkF m 239 #[.val (.int i0), .val (.int i1), .val (.int i2), .val (.int i3), .val (.int i4), .val (.int i5), .val (.int i6), .val (.int t0), .val (.ref (n0 + a3)), .val (.ref (n0 + x20)), .val (.ref (n0 + a21)), .val (.ref (n0 + x25)), .val (.int x28), .val (.int x29)] [(.int (1 : Int32))])) (fun t k => ?_) ?_
                        · show Steps p.tables e below (T47.setTop (mkF m 231 #[.val (.int i0), .val (.int i1), .val (.int i2), .val (.int i3), .val (.int i4), .val (.int i5), .val (.int i6), .val (.int t0), .val (.ref (n0 + a3)), .val (.ref (n0 + x20)), .val (.ref (n0 + a21)), .val (.ref (n0 + x25)), .val (.int x28), .val (.int x29)] [(.int x48)])) _
                          refine XS.ifNo X47.here hx rfl (hb hby at_231) rfl ((if0 _ _).trans (feq hc49).1) ?_
                          show Steps p.tables e below (T47.setTop (mkF m 234 #[.val (.int i0), .val (.int i1), .val (.int i2), .val (.int i3), .val (.int i4), .val (.int i5), .val (.int i6), .val (.int t0), .val (.ref (n0 + a3)), .val (.ref (n0 + x20)), .val (.ref (n0 + a21)), .val (.ref (n0 + x25)), .val (.int x28), .val (.int x29)] [])) _
                          refine XS.iconst X47.here hx rfl (hb hby at_234) ?_
                          show Steps p.tables e below (T47.setTop (mkF m 235 #[.val (.int i0), .val (.int i1), .val (.int i2), .val (.int i3), .val (.int i4), .val (.int i5), .val (.int i6), .val (.int t0), .val (.ref (n0 + a3)), .val (.ref (n0 + x20)), .val (.ref (n0 + a21)), .val (.ref (n0 + x25)), .val (.int x28), .val (.int x29)] [(.int (1 : Int32))])) _
                          refine XS.goto X47.here hx rfl (pc0 := 235) (pc' := 239) rfl (hb hby at_235) (by decide) (by decide) ?_
                          exact k
                        obtain ⟨rfl, rfl⟩ := own_inj hf
                        exact Gl.outN X47 hx hlk (t := .boolean) hret (by simp) (hb hby at_239) ⟨rfl, N47, by rw [e47]; exact O47⟩ (by show _ ≤ 24; omega) (by show _ ≤ 128; omega)
          · rw [if_neg hc33] at hf
            refine Gl.on (B := T23.setTop (mkF m 158 #[.val (.int i0), .val (.int i1), .val (.int i2), .val (.int i3), .val (.int i4), .val (.int i5), .val (.int i6), .val (.int t0), .val (.ref (n0 + a3)), .val (.ref (n0 + x20)), .val (.ref (n0 + a21)), .val (.ref (n0 + x25)), .val (.int x28), .val (.int x29)] [(.int (0 : Int32))])) (fun t k => ?_) ?_
            · show Steps p.tables e below (T23.setTop (mkF m 147 #[.val (.int i0), .val (.int i1), .val (.int i2), .val (.int i3), .val (.int i4), .val (.int i5), .val (.int i6), .val (.int t0), .val (.ref (n0 + a3)), .val (.ref (n0 + x20)), .val (.ref (n0 + a21)), .val (.ref (n0 + x25)), .val (.int x28), .val (.int x29)] [(.int i6), (.int x29)])) _
              refine XS.icmpYes X23.here hx rfl (pc0 := 147) (pc' := 157) rfl (hb hby at_147) rfl (flt hc33).2.1 (by decide) (by decide) ?_
              show Steps p.tables e below (T23.setTop (mkF m 157 #[.val (.int i0), .val (.int i1), .val (.int i2), .val (.int i3), .val (.int i4), .val (.int i5), .val (.int i6), .val (.int t0), .val (.ref (n0 + a3)), .val (.ref (n0 + x20)), .val (.ref (n0 + a21)), .val (.ref (n0 + x25)), .val (.int x28), .val (.int x29)] [])) _
              refine XS.iconst X23.here hx rfl (hb hby at_157) ?_
              exact k
            obtain ⟨rfl, rfl⟩ := own_inj hf
            exact Gl.outN X23 hx hlk (t := .boolean) hret (by simp) (hb hby at_158) ⟨rfl, N23, by rw [e23]; exact O23⟩ (by show _ ≤ 24; omega) (by show _ ≤ 128; omega)
      · rw [if_neg hc31] at hf
        refine Gl.on (B := T23.setTop (mkF m 158 #[.val (.int i0), .val (.int i1), .val (.int i2), .val (.int i3), .val (.int i4), .val (.int i5), .val (.int i6), .val (.int t0), .val (.ref (n0 + a3)), .val (.ref (n0 + x20)), .val (.ref (n0 + a21)), .val (.ref (n0 + x25)), .val (.int x28), .val (.int x29)] [(.int (0 : Int32))])) (fun t k => ?_) ?_
        · show Steps p.tables e below (T23.setTop (mkF m 135 #[.val (.int i0), .val (.int i1), .val (.int i2), .val (.int i3), .val (.int i4), .val (.int i5), .val (.int i6), .val (.int t0), .val (.ref (n0 + a3)), .val (.ref (n0 + x20)), .val (.ref (n0 + a21)), .val (.ref (n0 + x25)), .val (.int x28), .val (.int x29)] [(.int i6), (.int x28)])) _
          refine XS.icmpYes X23.here hx rfl (pc0 := 135) (pc' := 157) rfl (hb hby at_135) rfl (flt hc31).2.1 (by decide) (by decide) ?_
          show Steps p.tables e below (T23.setTop (mkF m 157 #[.val (.int i0), .val (.int i1), .val (.int i2), .val (.int i3), .val (.int i4), .val (.int i5), .val (.int i6), .val (.int t0), .val (.ref (n0 + a3)), .val (.ref (n0 + x20)), .val (.ref (n0 + a21)), .val (.ref (n0 + x25)), .val (.int x28), .val (.int x29)] [])) _
          refine XS.iconst X23.here hx rfl (hb hby at_157) ?_
          exact k
        obtain ⟨rfl, rfl⟩ := own_inj hf
        exact Gl.outN X23 hx hlk (t := .boolean) hret (by simp) (hb hby at_158) ⟨rfl, N23, by rw [e23]; exact O23⟩ (by show _ ≤ 24; omega) (by show _ ≤ 128; omega)
  · rw [if_neg hc27] at hf
    refine Gl.on (B := T23.setTop (mkF m 113 #[.val (.int i0), .val (.int i1), .val (.int i2), .val (.int i3), .val (.int i4), .val (.int i5), .val (.int i6), .val (.int t0), .val (.ref (n0 + a3)), .val (.ref (n0 + x20)), .val (.ref (n0 + a21)), .val (.ref (n0 + x25)), .unset, .unset] [(.int (0 : Int32))])) (fun t k => ?_) ?_
    · show Steps p.tables e below (T23.setTop (mkF m 109 #[.val (.int i0), .val (.int i1), .val (.int i2), .val (.int i3), .val (.int i4), .val (.int i5), .val (.int i6), .val (.int t0), .val (.ref (n0 + a3)), .val (.ref (n0 + x20)), .val (.ref (n0 + a21)), .val (.ref (n0 + x25)), .unset, .unset] [(.int (2 : Int32)), (.int x26)])) _
      refine XS.icmpNo X23.here hx rfl (hb hby at_109) rfl (feq hc27).1 ?_
      show Steps p.tables e below (T23.setTop (mkF m 112 #[.val (.int i0), .val (.int i1), .val (.int i2), .val (.int i3), .val (.int i4), .val (.int i5), .val (.int i6), .val (.int t0), .val (.ref (n0 + a3)), .val (.ref (n0 + x20)), .val (.ref (n0 + a21)), .val (.ref (n0 + x25)), .unset, .unset] [])) _
      refine XS.iconst X23.here hx rfl (hb hby at_112) ?_
      exact k
    obtain ⟨rfl, rfl⟩ := own_inj hf
    exact Gl.outN X23 hx hlk (t := .boolean) hret (by simp) (hb hby at_113) ⟨rfl, N23, by rw [e23]; exact O23⟩ (by show _ ≤ 24; omega) (by show _ ≤ 128; omega)
def f0 (D : Hp) (i0 : Int32) (i1 : Int32) (i2 : Int32) (i3 : Int32) (i4 : Int32) (i5 : Int32) : Option (Int32 × Hp) :=
  own_let ((2 : Int32) + (i5 &&& (3 : Int32))) fun v1 =>
  if (i5 &&& (4 : Int32)) = (0 : Int32) then (b0_20 D i0 i1 i2 i3 i4 v1 (0 : Int32)) else (b0_20 D i0 i1 i2 i3 i4 v1 (1 : Int32))
theorem ef_0 (m : MethodId) (i0 : Int32) (i1 : Int32) (i2 : Int32) (i3 : Int32) (i4 : Int32) (i5 : Int32) : entryFrame m #[(.int i0), (.int i1), (.int i2), (.int i3), (.int i4), (.int i5)] maxLocals = mkF m 0 #[.val (.int i0), .val (.int i1), .val (.int i2), .val (.int i3), .val (.int i4), .val (.int i5), .unset, .unset, .unset, .unset, .unset, .unset, .unset, .unset] [] := by first | (simp [entryFrame, mkF, argsToLocals, Value.category, maxLocals]; done) | rfl
set_option maxRecDepth 65536 in
set_option maxHeartbeats 40000000 in
theorem ct0 {l : Launch} {Z : State} {a0 : Array Value} (hw : ∀ d ∈ tables_1, d.before a0 Z = true) {n0 : Nat} {D D' : Hp} {i0 : Int32} {i1 : Int32} {i2 : Int32} {i3 : Int32} {i4 : Int32} {i5 : Int32} {r : Int32} (hf : f0 D i0 i1 i2 i3 i4 i5 = some (r, D')) :
    Ct Kt1 l Z x (.code x code maxLocals ret) room_1 n0 D #[(.int i0), (.int i1), (.int i2), (.int i3), (.int i4), (.int i5)] (some (.int r)) D' := by
  refine Ct.of (plainFor_of_name pn_0) ?_
  intro p e s m below meth c T0 h0 hC X0 e0 O0
  obtain ⟨hx, hZ, hby, hml, hown, hnm, hret, hlk⟩ := id hC
  have hml : c.maxLocals = 14 := hml
  have hown : s.vm.findClass "com/example/pathweave/pathweave/core/PairIndexLargestTwoPinLaw" = some m.cls := hown
  have hnm : meth.name = "law" := hnm
  have N0 := Fr.nil n0
  refine Gl.on (fun t k => castTop (ef_0 m i0 i1 i2 i3 i4 i5) k) ?_
  rw [f0] at hf
  obtain ⟨v1, hv1, hf⟩ := own_letE hf
  refine Gl.on (B := T0.setTop (mkF m 12 #[.val (.int i0), .val (.int i1), .val (.int i2), .val (.int i3), .val (.int i4), .val (.int i5), .val (.int v1), .unset, .unset, .unset, .unset, .unset, .unset, .unset] [(.int (i5 &&& (4 : Int32)))])) (fun t k => ?_) ?_
  · show Steps p.tables e below (T0.setTop (mkF m 0 #[.val (.int i0), .val (.int i1), .val (.int i2), .val (.int i3), .val (.int i4), .val (.int i5), .unset, .unset, .unset, .unset, .unset, .unset, .unset, .unset] [])) _
    refine XS.iconst X0.here hx rfl (hb hby at_0) ?_
    show Steps p.tables e below (T0.setTop (mkF m 1 #[.val (.int i0), .val (.int i1), .val (.int i2), .val (.int i3), .val (.int i4), .val (.int i5), .unset, .unset, .unset, .unset, .unset, .unset, .unset, .unset] [(.int (2 : Int32))])) _
    refine XS.iload X0.here hx rfl (hb hby at_1) rfl ?_
    show Steps p.tables e below (T0.setTop (mkF m 3 #[.val (.int i0), .val (.int i1), .val (.int i2), .val (.int i3), .val (.int i4), .val (.int i5), .unset, .unset, .unset, .unset, .unset, .unset, .unset, .unset] [(.int i5), (.int (2 : Int32))])) _
    refine XS.iconst X0.here hx rfl (hb hby at_3) ?_
    show Steps p.tables e below (T0.setTop (mkF m 4 #[.val (.int i0), .val (.int i1), .val (.int i2), .val (.int i3), .val (.int i4), .val (.int i5), .unset, .unset, .unset, .unset, .unset, .unset, .unset, .unset] [(.int (3 : Int32)), (.int i5), (.int (2 : Int32))])) _
    refine XS.iand X0.here hx rfl (hb hby at_4) rfl ?_
    show Steps p.tables e below (T0.setTop (mkF m 5 #[.val (.int i0), .val (.int i1), .val (.int i2), .val (.int i3), .val (.int i4), .val (.int i5), .unset, .unset, .unset, .unset, .unset, .unset, .unset, .unset] [(.int (i5 &&& (3 : Int32))), (.int (2 : Int32))])) _
    refine XS.iadd X0.here hx rfl (hb hby at_5) rfl ?_
    show Steps p.tables e below (T0.setTop (mkF m 6 #[.val (.int i0), .val (.int i1), .val (.int i2), .val (.int i3), .val (.int i4), .val (.int i5), .unset, .unset, .unset, .unset, .unset, .unset, .unset, .unset] [(.int ((2 : Int32) + (i5 &&& (3 : Int32))))])) _
    refine own_to (congrArg (fun z => T0.setTop (mkF m 6 #[.val (.int i0), .val (.int i1), .val (.int i2), .val (.int i3), .val (.int i4), .val (.int i5), .unset, .unset, .unset, .unset, .unset, .unset, .unset, .unset] [(.int z)])) hv1) ?_
    show Steps p.tables e below (T0.setTop (mkF m 6 #[.val (.int i0), .val (.int i1), .val (.int i2), .val (.int i3), .val (.int i4), .val (.int i5), .unset, .unset, .unset, .unset, .unset, .unset, .unset, .unset] [(.int v1)])) _
    refine XS.istore X0.here hx rfl (hb hby at_6) rfl (l' := #[.val (.int i0), .val (.int i1), .val (.int i2), .val (.int i3), .val (.int i4), .val (.int i5), .val (.int v1), .unset, .unset, .unset, .unset, .unset, .unset, .unset]) rfl ?_
    show Steps p.tables e below (T0.setTop (mkF m 8 #[.val (.int i0), .val (.int i1), .val (.int i2), .val (.int i3), .val (.int i4), .val (.int i5), .val (.int v1), .unset, .unset, .unset, .unset, .unset, .unset, .unset] [])) _
    refine XS.iload X0.here hx rfl (hb hby at_8) rfl ?_
    show Steps p.tables e below (T0.setTop (mkF m 10 #[.val (.int i0), .val (.int i1), .val (.int i2), .val (.int i3), .val (.int i4), .val (.int i5), .val (.int v1), .unset, .unset, .unset, .unset, .unset, .unset, .unset] [(.int i5)])) _
    refine XS.iconst X0.here hx rfl (hb hby at_10) ?_
    show Steps p.tables e below (T0.setTop (mkF m 11 #[.val (.int i0), .val (.int i1), .val (.int i2), .val (.int i3), .val (.int i4), .val (.int i5), .val (.int v1), .unset, .unset, .unset, .unset, .unset, .unset, .unset] [(.int (4 : Int32)), (.int i5)])) _
    refine XS.iand X0.here hx rfl (hb hby at_11) rfl ?_
    exact k
  by_cases hc2 : (i5 &&& (4 : Int32)) = (0 : Int32)
  · rw [if_pos hc2] at hf
    refine Gl.on (B := T0.setTop (mkF m 20 #[.val (.int i0), .val (.int i1), .val (.int i2), .val (.int i3), .val (.int i4), .val (.int i5), .val (.int v1), .unset, .unset, .unset, .unset, .unset, .unset, .unset] [(.int (0 : Int32))])) (fun t k => ?_) ?_
    · show Steps p.tables e below (T0.setTop (mkF m 12 #[.val (.int i0), .val (.int i1), .val (.int i2), .val (.int i3), .val (.int i4), .val (.int i5), .val (.int v1), .unset, .unset, .unset, .unset, .unset, .unset, .unset] [(.int (i5 &&& (4 : Int32)))])) _
      refine XS.ifYes X0.here hx rfl (pc0 := 12) (pc' := 19) rfl (hb hby at_12) rfl ((if0 _ _).trans (teq hc2).1) (by decide) (by decide) ?_
      show Steps p.tables e below (T0.setTop (mkF m 19 #[.val (.int i0), .val (.int i1), .val (.int i2), .val (.int i3), .val (.int i4), .val (.int i5), .val (.int v1), .unset, .unset, .unset, .unset, .unset, .unset, .unset] [])) _
      refine XS.iconst X0.here hx rfl (hb hby at_19) ?_
      exact k
    exact bt0_20 hw hC X0 e0 O0 N0 (by omega) (by omega) hf
  · rw [if_neg hc2] at hf
    refine Gl.on (B := T0.setTop (mkF m 20 #[.val (.int i0), .val (.int i1), .val (.int i2), .val (.int i3), .val (.int i4), .val (.int i5), .val (.int v1), .unset, .unset, .unset, .unset, .unset, .unset, .unset] [(.int (1 : Int32))])) (fun t k => ?_) ?_
    · show Steps p.tables e below (T0.setTop (mkF m 12 #[.val (.int i0), .val (.int i1), .val (.int i2), .val (.int i3), .val (.int i4), .val (.int i5), .val (.int v1), .unset, .unset, .unset, .unset, .unset, .unset, .unset] [(.int (i5 &&& (4 : Int32)))])) _
      refine XS.ifNo X0.here hx rfl (hb hby at_12) rfl ((if0 _ _).trans (feq hc2).1) ?_
      show Steps p.tables e below (T0.setTop (mkF m 15 #[.val (.int i0), .val (.int i1), .val (.int i2), .val (.int i3), .val (.int i4), .val (.int i5), .val (.int v1), .unset, .unset, .unset, .unset, .unset, .unset, .unset] [])) _
      refine XS.iconst X0.here hx rfl (hb hby at_15) ?_
      show Steps p.tables e below (T0.setTop (mkF m 16 #[.val (.int i0), .val (.int i1), .val (.int i2), .val (.int i3), .val (.int i4), .val (.int i5), .val (.int v1), .unset, .unset, .unset, .unset, .unset, .unset, .unset] [(.int (1 : Int32))])) _
      refine XS.goto X0.here hx rfl (pc0 := 16) (pc' := 20) rfl (hb hby at_16) (by decide) (by decide) ?_
      exact k
    exact bt0_20 hw hC X0 e0 O0 N0 (by omega) (by omega) hf
theorem own_fin (x : Int32) (n : Nat) (h0 : 0 ≤ x.toInt) (h1 : x.toInt < n) : ∃ p : Fin n, x = p.1.toInt32 :=
  ⟨⟨x.toNatClampNeg, by simp only [Int32.toNatClampNeg]; omega⟩, (back32 (by rw [Int32.lt_iff_toInt_lt]; have : (0 : Int32).toInt = 0 := rfl; omega)).1.symm⟩
theorem own_modr (x n : Int32) (hn : 0 < n.toInt) : 0 ≤ ((x &&& (2147483647 : Int32)) % n).toInt ∧ ((x &&& (2147483647 : Int32)) % n).toInt < n.toInt := by
  have e1 := c_and x (2147483647 : Int32) (by decide)
  have e2 := (c_irem (x &&& (2147483647 : Int32)) n n.toInt rfl).1 e1.1
  rw [e2]
  exact ⟨Int.emod_nonneg _ (by omega), Int.emod_lt_of_pos _ hn⟩
theorem own_mm (x n : Int32) (hn : 0 < n.toInt) : ((((x &&& (2147483647 : Int32)) % n) &&& (2147483647 : Int32)) % n) = ((x &&& (2147483647 : Int32)) % n) := by
  obtain ⟨h1, h2⟩ := own_modr x n hn
  have e0 : ((2 ^ 31 : Nat) : Int) = 2147483648 := by decide
  have u := Int32.toInt_lt ((x &&& (2147483647 : Int32)) % n)
  have e1 : (((x &&& (2147483647 : Int32)) % n) &&& (2147483647 : Int32)).toInt = ((x &&& (2147483647 : Int32)) % n).toInt := by
    rw [c_mask _ 2147483647 31 (by decide) (by decide), e0]; omega
  have e2 : (((x &&& (2147483647 : Int32)) % n) &&& (2147483647 : Int32)) = ((x &&& (2147483647 : Int32)) % n) := Int32.toInt_inj.mp e1
  rw [e2]
  apply Int32.toInt_inj.mp
  rw [(c_irem _ n n.toInt rfl).1 h1]
  exact Int.emod_eq_of_lt h1 h2
theorem own_ex {α : Type} {o : Option (Int32 × α)} (h : o.map Prod.fst = some (1 : Int32)) : ∃ D', o = some ((1 : Int32), D') := by
  cases o with
  | none => cases h
  | some q => obtain ⟨x, D⟩ := q; exact ⟨D, by cases h; rfl⟩
theorem own_letU {α β : Type} {a : α} {f : α → β} : own_let a f = f a := rfl
theorem own_or (x y : Int64) (hx : 0 ≤ x.toInt ∧ x.toInt < 2147483648) (hy : 0 ≤ y.toInt ∧ y.toInt < 2147483648) : 0 ≤ (x ||| y).toInt ∧ (x ||| y).toInt < 2147483648 := by
  have e1 : x.toInt = x.toBitVec.toInt := rfl
  have e2 : y.toInt = y.toBitVec.toInt := rfl
  have e3 : (x ||| y).toInt = (x.toBitVec ||| y.toBitVec).toInt := rfl
  rw [e1] at hx; rw [e2] at hy; rw [e3]
  have l1 := x.toBitVec.isLt; have l2 := y.toBitVec.isLt; have l3 := (x.toBitVec ||| y.toBitVec).isLt
  rw [BitVec.toInt_eq_toNat_cond] at hx hy ⊢
  have hx' : x.toBitVec.toNat < 2 ^ 31 := by split at hx <;> omega
  have hy' : y.toBitVec.toNat < 2 ^ 31 := by split at hy <;> omega
  have := Nat.or_lt_two_pow hx' hy'
  rw [BitVec.toNat_or]
  rw [if_pos (by omega)]
  omega
theorem own_f6 (D : Hp) (x : Int64) (h : 0 ≤ x.toInt) : f8 D x = some (x, D) := by
  rw [f8, if_neg (by rw [Int64.lt_iff_toInt_lt]; have : (0 : Int64).toInt = 0 := rfl; omega)]
theorem own_f5 (D : Hp) (x y : Int64) (hx : 0 ≤ x.toInt ∧ x.toInt < 2147483648) (hy : 0 ≤ y.toInt ∧ y.toInt < 2147483648) : f7 D x y = some (x * y, D) := by
  rw [f7, own_letU, own_f6 _ _ hx.1, Option.bind_some, own_letU, own_letU, own_f6 _ _ hy.1, Option.bind_some, own_letU, own_letU, if_pos]
  apply Int64.toInt_inj.mp
  have h := own_or x y hx hy
  show (((x ||| y).toUInt64 >>> ((31 : Int32) &&& 0x3f).toInt64.toUInt64).toInt64).toInt = _
  rw [c_lushr _ 31 31 (by decide) (by decide)]
  have e : ((2 ^ 31 : Nat) : Int) = 2147483648 := by decide
  have e0 : (0 : Int64).toInt = 0 := rfl
  rw [e, e0]; omega
theorem own_f4 (D : Hp) (x : Int64) (y : Int32) (hx : 0 ≤ x.toInt ∧ x.toInt < 2147483648) (hy : 0 ≤ y.toInt) : f6 D x y = some (x * y.toInt64, D) := by
  have l := y.toInt_lt
  rw [f6, own_f5 D x y.toInt64 hx (by rw [Int32.toInt_toInt64]; omega), Option.bind_some, own_letU, own_letU]
theorem own_f7 (D : Hp) (x y : Int64) (h : XT.fits64 (x.toInt + y.toInt)) : f9 D x y = some (x + y, D) := by
  rw [f9, own_letU, if_neg (XT.addOk64 h)]
theorem own_st (fu : Nat) (D : Hp) (j1 j3 : Int64) (ob : Nat) (n i x : Int32) (hi : i < n) (hx : rI D ob 0 i = some x) (b1 : 0 ≤ j1.toInt ∧ j1.toInt ≤ 9000000) (b3 : 0 ≤ j3.toInt ∧ j3.toInt ≤ 4096) (bx : 0 ≤ x.toInt ∧ x.toInt ≤ 512) :
    ∃ j1' j3' : Int64, b5_15 (fu + 1) D j1 j3 ob n i = b5_15 fu D j1' j3' ob n (i + 1) ∧ j1'.toInt = j1.toInt + j3.toInt * x.toInt ∧ j3'.toInt = j3.toInt + x.toInt := by
  have hm : 0 ≤ j3.toInt * x.toInt ∧ j3.toInt * x.toInt ≤ 4096 * 512 := ⟨Int.mul_nonneg b3.1 bx.1, Int.mul_le_mul b3.2 bx.2 bx.1 (by decide)⟩
  have h1 : (j3 * x.toInt64).toInt = j3.toInt * x.toInt := by
    rw [XT.mul64 (by rw [Int32.toInt_toInt64]; constructor <;> omega), Int32.toInt_toInt64]
  refine ⟨j1 + j3 * x.toInt64, j3 + x.toInt64, ?_, ?_, ?_⟩
  · rw [b5_15, if_pos hi, hx, Option.bind_some, own_f4 D j3 x ⟨b3.1, by omega⟩ bx.1, Option.bind_some, own_letU, own_letU, own_f7 _ _ _ (by rw [h1]; constructor <;> omega), Option.bind_some, own_letU, own_letU, own_letU]
  · rw [XT.add64 (by rw [h1]; constructor <;> omega), h1]
  · rw [XT.add64 (by rw [Int32.toInt_toInt64]; constructor <;> omega), Int32.toInt_toInt64]
theorem own_mb (a b A B : Int) (ha : 0 ≤ a ∧ a ≤ A) (hb : 0 ≤ b ∧ b ≤ B) : 0 ≤ a * b ∧ a * b ≤ A * B := ⟨Int.mul_nonneg ha.1 hb.1, Int.mul_le_mul ha.2 hb.2 hb.1 (by omega)⟩

theorem own_pc2 (D : Hp) (ob : Nat) (s0 s1 : Int32) (hD : D[ob]? = some (0, [.int s0, .int s1])) (h0 : 0 ≤ s0.toInt ∧ s0.toInt ≤ 512) (h1 : 0 ≤ s1.toInt ∧ s1.toInt ≤ 512) : ∃ c : Int64, f5 D ob = some (c, D) ∧ c.toInt ≤ 10000000 := by
  rw [f5, show lA D ob 0 = some (2 : Int32) from by rw [lA, hD]; rfl, Option.bind_some]
  have z : (0 : Int64).toInt = 0 := rfl
  obtain ⟨j1, k1, e1, p1, q1⟩ := own_st 11 D 0 0 ob 2 0 s0 (by decide) (by rw [rI, rV, hD]; rfl) (by omega) (by omega) h0
  rw [show (12 : Nat) = 11 + 1 from rfl, e1, show (0 : Int32) + 1 = 1 from rfl]
  have m1 := own_mb (0 : Int64).toInt s0.toInt 0 512 (by omega) h0
  obtain ⟨j2, k2, e2, p2, q2⟩ := own_st 10 D j1 k1 ob 2 1 s1 (by decide) (by rw [rI, rV, hD]; rfl) (by omega) (by omega) h1
  rw [show (11 : Nat) = 10 + 1 from rfl, e2, show (1 : Int32) + 1 = 2 from rfl]
  have m2 := own_mb (k1 : Int64).toInt s1.toInt 512 512 (by omega) h1
  refine ⟨j2, ?_, by omega⟩
  rw [show (10 : Nat) = 9 + 1 from rfl, b5_15, if_neg (by decide)]
theorem own_pc3 (D : Hp) (ob : Nat) (s0 s1 s2 : Int32) (hD : D[ob]? = some (0, [.int s0, .int s1, .int s2])) (h0 : 0 ≤ s0.toInt ∧ s0.toInt ≤ 512) (h1 : 0 ≤ s1.toInt ∧ s1.toInt ≤ 512) (h2 : 0 ≤ s2.toInt ∧ s2.toInt ≤ 512) : ∃ c : Int64, f5 D ob = some (c, D) ∧ c.toInt ≤ 10000000 := by
  rw [f5, show lA D ob 0 = some (3 : Int32) from by rw [lA, hD]; rfl, Option.bind_some]
  have z : (0 : Int64).toInt = 0 := rfl
  obtain ⟨j1, k1, e1, p1, q1⟩ := own_st 11 D 0 0 ob 3 0 s0 (by decide) (by rw [rI, rV, hD]; rfl) (by omega) (by omega) h0
  rw [show (12 : Nat) = 11 + 1 from rfl, e1, show (0 : Int32) + 1 = 1 from rfl]
  have m1 := own_mb (0 : Int64).toInt s0.toInt 0 512 (by omega) h0
  obtain ⟨j2, k2, e2, p2, q2⟩ := own_st 10 D j1 k1 ob 3 1 s1 (by decide) (by rw [rI, rV, hD]; rfl) (by omega) (by omega) h1
  rw [show (11 : Nat) = 10 + 1 from rfl, e2, show (1 : Int32) + 1 = 2 from rfl]
  have m2 := own_mb (k1 : Int64).toInt s1.toInt 512 512 (by omega) h1
  obtain ⟨j3, k3, e3, p3, q3⟩ := own_st 9 D j2 k2 ob 3 2 s2 (by decide) (by rw [rI, rV, hD]; rfl) (by omega) (by omega) h2
  rw [show (10 : Nat) = 9 + 1 from rfl, e3, show (2 : Int32) + 1 = 3 from rfl]
  have m3 := own_mb (k2 : Int64).toInt s2.toInt 1024 512 (by omega) h2
  refine ⟨j3, ?_, by omega⟩
  rw [show (9 : Nat) = 8 + 1 from rfl, b5_15, if_neg (by decide)]
theorem own_pc4 (D : Hp) (ob : Nat) (s0 s1 s2 s3 : Int32) (hD : D[ob]? = some (0, [.int s0, .int s1, .int s2, .int s3])) (h0 : 0 ≤ s0.toInt ∧ s0.toInt ≤ 512) (h1 : 0 ≤ s1.toInt ∧ s1.toInt ≤ 512) (h2 : 0 ≤ s2.toInt ∧ s2.toInt ≤ 512) (h3 : 0 ≤ s3.toInt ∧ s3.toInt ≤ 512) : ∃ c : Int64, f5 D ob = some (c, D) ∧ c.toInt ≤ 10000000 := by
  rw [f5, show lA D ob 0 = some (4 : Int32) from by rw [lA, hD]; rfl, Option.bind_some]
  have z : (0 : Int64).toInt = 0 := rfl
  obtain ⟨j1, k1, e1, p1, q1⟩ := own_st 11 D 0 0 ob 4 0 s0 (by decide) (by rw [rI, rV, hD]; rfl) (by omega) (by omega) h0
  rw [show (12 : Nat) = 11 + 1 from rfl, e1, show (0 : Int32) + 1 = 1 from rfl]
  have m1 := own_mb (0 : Int64).toInt s0.toInt 0 512 (by omega) h0
  obtain ⟨j2, k2, e2, p2, q2⟩ := own_st 10 D j1 k1 ob 4 1 s1 (by decide) (by rw [rI, rV, hD]; rfl) (by omega) (by omega) h1
  rw [show (11 : Nat) = 10 + 1 from rfl, e2, show (1 : Int32) + 1 = 2 from rfl]
  have m2 := own_mb (k1 : Int64).toInt s1.toInt 512 512 (by omega) h1
  obtain ⟨j3, k3, e3, p3, q3⟩ := own_st 9 D j2 k2 ob 4 2 s2 (by decide) (by rw [rI, rV, hD]; rfl) (by omega) (by omega) h2
  rw [show (10 : Nat) = 9 + 1 from rfl, e3, show (2 : Int32) + 1 = 3 from rfl]
  have m3 := own_mb (k2 : Int64).toInt s2.toInt 1024 512 (by omega) h2
  obtain ⟨j4, k4, e4, p4, q4⟩ := own_st 8 D j3 k3 ob 4 3 s3 (by decide) (by rw [rI, rV, hD]; rfl) (by omega) (by omega) h3
  rw [show (9 : Nat) = 8 + 1 from rfl, e4, show (3 : Int32) + 1 = 4 from rfl]
  have m4 := own_mb (k3 : Int64).toInt s3.toInt 1536 512 (by omega) h3
  refine ⟨j4, ?_, by omega⟩
  rw [show (8 : Nat) = 7 + 1 from rfl, b5_15, if_neg (by decide)]
theorem own_pc5 (D : Hp) (ob : Nat) (s0 s1 s2 s3 s4 : Int32) (hD : D[ob]? = some (0, [.int s0, .int s1, .int s2, .int s3, .int s4])) (h0 : 0 ≤ s0.toInt ∧ s0.toInt ≤ 512) (h1 : 0 ≤ s1.toInt ∧ s1.toInt ≤ 512) (h2 : 0 ≤ s2.toInt ∧ s2.toInt ≤ 512) (h3 : 0 ≤ s3.toInt ∧ s3.toInt ≤ 512) (h4 : 0 ≤ s4.toInt ∧ s4.toInt ≤ 512) : ∃ c : Int64, f5 D ob = some (c, D) ∧ c.toInt ≤ 10000000 := by
  rw [f5, show lA D ob 0 = some (5 : Int32) from by rw [lA, hD]; rfl, Option.bind_some]
  have z : (0 : Int64).toInt = 0 := rfl
  obtain ⟨j1, k1, e1, p1, q1⟩ := own_st 11 D 0 0 ob 5 0 s0 (by decide) (by rw [rI, rV, hD]; rfl) (by omega) (by omega) h0
  rw [show (12 : Nat) = 11 + 1 from rfl, e1, show (0 : Int32) + 1 = 1 from rfl]
  have m1 := own_mb (0 : Int64).toInt s0.toInt 0 512 (by omega) h0
  obtain ⟨j2, k2, e2, p2, q2⟩ := own_st 10 D j1 k1 ob 5 1 s1 (by decide) (by rw [rI, rV, hD]; rfl) (by omega) (by omega) h1
  rw [show (11 : Nat) = 10 + 1 from rfl, e2, show (1 : Int32) + 1 = 2 from rfl]
  have m2 := own_mb (k1 : Int64).toInt s1.toInt 512 512 (by omega) h1
  obtain ⟨j3, k3, e3, p3, q3⟩ := own_st 9 D j2 k2 ob 5 2 s2 (by decide) (by rw [rI, rV, hD]; rfl) (by omega) (by omega) h2
  rw [show (10 : Nat) = 9 + 1 from rfl, e3, show (2 : Int32) + 1 = 3 from rfl]
  have m3 := own_mb (k2 : Int64).toInt s2.toInt 1024 512 (by omega) h2
  obtain ⟨j4, k4, e4, p4, q4⟩ := own_st 8 D j3 k3 ob 5 3 s3 (by decide) (by rw [rI, rV, hD]; rfl) (by omega) (by omega) h3
  rw [show (9 : Nat) = 8 + 1 from rfl, e4, show (3 : Int32) + 1 = 4 from rfl]
  have m4 := own_mb (k3 : Int64).toInt s3.toInt 1536 512 (by omega) h3
  obtain ⟨j5, k5, e5, p5, q5⟩ := own_st 7 D j4 k4 ob 5 4 s4 (by decide) (by rw [rI, rV, hD]; rfl) (by omega) (by omega) h4
  rw [show (8 : Nat) = 7 + 1 from rfl, e5, show (4 : Int32) + 1 = 5 from rfl]
  have m5 := own_mb (k4 : Int64).toInt s4.toInt 2048 512 (by omega) h4
  refine ⟨j5, ?_, by omega⟩
  rw [show (7 : Nat) = 6 + 1 from rfl, b5_15, if_neg (by decide)]
theorem own_letV {α β : Type} {a b : α} (h : a = b) {f : α → β} : own_let a f = f b := by rw [h]; rfl
theorem own_bs {α β : Type} {o : Option α} {a : α} (h : o = some a) {f : α → Option β} : o.bind f = f a := by rw [h]; rfl
theorem own_letP1 {α β γ : Type} {a : α} {b : β} {f : α → γ} : own_let (a, b).1 f = f a := rfl
theorem own_letP2 {α β γ : Type} {a : α} {b : β} {f : β → γ} : own_let (a, b).2 f = f b := rfl
theorem own_big (c : Int64) (hc : c.toInt ≤ 10000000) : ¬ (10000000 : Int64) < c := by
  rw [Int64.lt_iff_toInt_lt]; have : (10000000 : Int64).toInt = 10000000 := rfl; omega
theorem own_f1 (D : Hp) (x t : Int32) : ∃ s : Int32, f1 D x t = some (s, D) ∧ (0 ≤ s.toInt ∧ s.toInt ≤ 512) := by
  rw [f1]
  have e1 : (1 : Int32).toInt = 1 := rfl
  by_cases h : t = (0 : Int32)
  · rw [if_pos h]
    have e := c_and x (511 : Int32) (by decide)
    have e7 : (511 : Int32).toInt = 511 := rfl
    refine ⟨_, rfl, ?_⟩
    rw [XT.add32 (by constructor <;> omega)]; omega
  · rw [if_neg h]
    have e := c_and x (3 : Int32) (by decide)
    have e7 : (3 : Int32).toInt = 3 := rfl
    refine ⟨_, rfl, ?_⟩
    rw [XT.add32 (by constructor <;> omega)]; omega
def oC (i v p sp q sq : Int) : Prop := (i < p → v < sp) ∧ (p ≤ i → v ≤ sp) ∧ (i = p ∨ ((i < q → v < sq) ∧ (q ≤ i → v ≤ sq)))
def oS (p sp q sq j sj p' sp' q' sq' : Int) : Prop := (sp < sj ∧ p' = j ∧ sp' = sj ∧ q' = p ∧ sq' = sp) ∨ (sj ≤ sp ∧ sq < sj ∧ p' = p ∧ sp' = sp ∧ q' = j ∧ sq' = sj) ∨ (sj ≤ sp ∧ sj ≤ sq ∧ p' = p ∧ sp' = sp ∧ q' = q ∧ sq' = sq)
theorem own_cs {i v p sp q sq j sj p' sp' q' sq' : Int} (hi : i < j) (C : oC i v p sp q sq) (h : oS p sp q sq j sj p' sp' q' sq') : oC i v p' sp' q' sq' := by
  obtain ⟨c1, c2, c3⟩ := C
  rcases h with ⟨h1, rfl, rfl, rfl, rfl⟩ | ⟨h1, h2, rfl, rfl, rfl, rfl⟩ | ⟨h1, h2, rfl, rfl, rfl, rfl⟩
  · exact ⟨by omega, by omega, by omega⟩
  · exact ⟨by omega, by omega, by omega⟩
  · exact ⟨c1, c2, c3⟩
theorem own_cn {p sp q sq j sj p' sp' q' sq' : Int} (hp : p < j) (hq : q < j) (h : oS p sp q sq j sj p' sp' q' sq') : oC j sj p' sp' q' sq' := by
  rcases h with ⟨h1, rfl, rfl, rfl, rfl⟩ | ⟨h1, h2, rfl, rfl, rfl, rfl⟩ | ⟨h1, h2, rfl, rfl, rfl, rfl⟩
  · exact ⟨by omega, by omega, by omega⟩
  · exact ⟨by omega, by omega, by omega⟩
  · exact ⟨by omega, by omega, by omega⟩
def oB (p q j : Int) : Prop := 0 ≤ p ∧ p < j ∧ 0 ≤ q ∧ q < j ∧ p ≠ q
theorem own_bn {p sp q sq j sj p' sp' q' sq' k : Int} (hk : j + 1 = k) (B : oB p q j) (h : oS p sp q sq j sj p' sp' q' sq') : oB p' q' k := by
  obtain ⟨b1, b2, b3, b4, b5⟩ := B
  rcases h with ⟨h1, rfl, rfl, rfl, rfl⟩ | ⟨h1, h2, rfl, rfl, rfl, rfl⟩ | ⟨h1, h2, rfl, rfl, rfl, rfl⟩
  · exact ⟨by omega, by omega, by omega, by omega, by omega⟩
  · exact ⟨by omega, by omega, by omega, by omega, by omega⟩
  · exact ⟨by omega, by omega, by omega, by omega, by omega⟩
theorem own_nlt {x y : Int32} (h : ¬ x < y) : y.toInt ≤ x.toInt := by rw [Int32.lt_iff_toInt_lt] at h; omega
theorem own_lt {x y : Int32} (h : x < y) : x.toInt < y.toInt := Int32.lt_iff_toInt_lt.mp h
theorem own_lt' {x y : Int32} (h : x.toInt < y.toInt) : x < y := Int32.lt_iff_toInt_lt.mpr h
theorem own_nlt' {x y : Int32} (h : y.toInt ≤ x.toInt) : ¬ x < y := by rw [Int32.lt_iff_toInt_lt]; omega
theorem own_nlt0 {x : Int32} (h : 0 ≤ x.toInt) : ¬ x < (0 : Int32) := own_nlt' (by have e : (0 : Int32).toInt = 0 := rfl; rw [e]; exact h)
theorem own_ltk {x k : Int32} {z : Int} (hz : k.toInt = z) (h : x.toInt < z) : x < k := own_lt' (by rw [hz]; exact h)
theorem own_lp (fu : Nat) (D F : Hp) (ob A : Nat) (p q j n sj sp sq : Int32) (z : Int) (hz : j.toInt = z) (hA : gR D ob 1 0 = some A) (hn : lA D A 0 = some n) (hj : j < n) (rj : rI D A 0 j = some sj) (rp : rI D A 0 p = some sp) (rq : rI D A 0 q = some sq) (fj : rI F 0 0 j = some sj) (fp : rI F 0 0 p = some sp) (fq : rI F 0 0 q = some sq) :
    ∃ p' q' sp' sq' : Int32, b10_25 (fu + 1) D ob p q j = b10_25 fu D ob p' q' (j + (1 : Int32)) ∧ rI D A 0 p' = some sp' ∧ rI D A 0 q' = some sq' ∧ rI F 0 0 p' = some sp' ∧ rI F 0 0 q' = some sq' ∧ oS p.toInt sp.toInt q.toInt sq.toInt z sj.toInt p'.toInt sp'.toInt q'.toInt sq'.toInt := by
  rw [b10_25, own_bs hA, own_bs hn, if_pos hj, own_bs hA, own_bs rj, own_bs hA, own_bs rp]
  by_cases h1 : sp < sj
  · rw [if_pos h1]; exact ⟨j, p, sj, sp, rfl, rj, rp, fj, fp, Or.inl ⟨own_lt h1, hz, rfl, rfl, rfl⟩⟩
  · rw [if_neg h1, own_bs hA, own_bs rj, own_bs hA, own_bs rq]
    by_cases h2 : sq < sj
    · rw [if_pos h2]; exact ⟨p, j, sp, sj, rfl, rp, rj, fp, fj, Or.inr (Or.inl ⟨own_nlt h1, own_lt h2, rfl, rfl, hz, rfl⟩)⟩
    · rw [if_neg h2]; exact ⟨p, q, sp, sq, rfl, rp, rq, fp, fq, Or.inr (Or.inr ⟨own_nlt h1, own_nlt h2, rfl, rfl, rfl, rfl⟩)⟩
theorem own_st0 (D F : Hp) (ob A : Nat) (s0 s1 : Int32) (hA : gR D ob 1 0 = some A) (r0 : rI D A 0 (0 : Int32) = some s0) (r1 : rI D A 0 (1 : Int32) = some s1) (f0 : rI F 0 0 (0 : Int32) = some s0) (f1 : rI F 0 0 (1 : Int32) = some s1) :
    ∃ p q sp sq : Int32, f10 D ob = b10_25 12 D ob p q (2 : Int32) ∧ rI D A 0 p = some sp ∧ rI D A 0 q = some sq ∧ rI F 0 0 p = some sp ∧ rI F 0 0 q = some sq ∧ oB p.toInt q.toInt 2 ∧ oC 0 s0.toInt p.toInt sp.toInt q.toInt sq.toInt ∧ oC 1 s1.toInt p.toInt sp.toInt q.toInt sq.toInt := by
  have e0 : (0 : Int32).toInt = 0 := rfl
  have e1 : (1 : Int32).toInt = 1 := rfl
  rw [f10, own_bs hA, own_bs r1, own_bs hA, own_bs r0]
  by_cases h : s0 < s1
  · rw [if_pos h]
    have h' := own_lt h
    refine ⟨1, 0, s1, s0, rfl, r1, r0, f1, f0, ?_, ?_, ?_⟩
    · rw [e0, e1]; exact ⟨by omega, by omega, by omega, by omega, by omega⟩
    · rw [e0, e1]; exact ⟨by omega, by omega, by omega⟩
    · rw [e0, e1]; exact ⟨by omega, by omega, by omega⟩
  · rw [if_neg h]
    have h' := own_nlt h
    refine ⟨0, 1, s0, s1, rfl, r0, r1, f0, f1, ?_, ?_, ?_⟩
    · rw [e0, e1]; exact ⟨by omega, by omega, by omega, by omega, by omega⟩
    · rw [e0, e1]; exact ⟨by omega, by omega, by omega⟩
    · rw [e0, e1]; exact ⟨by omega, by omega, by omega⟩
theorem own_b11 (D : Hp) (ob : Nat) (i p q si sq : Int32) (ri : rI D ob 0 i = some si) (rq : rI D ob 0 q = some sq) (c3 : i.toInt = p.toInt ∨ ((i.toInt < q.toInt → si.toInt < sq.toInt) ∧ (q.toInt ≤ i.toInt → si.toInt ≤ sq.toInt))) : b11_43 D ob i p q (1 : Int32) = some ((1 : Int32), D) := by
  rw [b11_43, if_neg (by decide)]
  by_cases h : i = p
  · rw [if_pos h]
  · have h' : ¬ i.toInt = p.toInt := fun z => h (Int32.toInt_inj.mp z)
    rw [if_neg h]
    by_cases h2 : i < q
    · have := own_lt h2
      rw [if_pos h2, own_bs ri, own_bs rq, if_pos (own_lt' (by omega))]
    · have := own_nlt h2
      rw [if_neg h2, own_bs ri, own_bs rq, if_neg (own_nlt' (by omega))]
theorem own_f11 (D : Hp) (ob : Nat) (i n p q si sp sq : Int32) (z : Int) (hz : i.toInt = z) (hi : i < n) (ri : rI D ob 0 i = some si) (rp : rI D ob 0 p = some sp) (rq : rI D ob 0 q = some sq) (C : oC z si.toInt p.toInt sp.toInt q.toInt sq.toInt) : f11 D ob i n p q = some ((1 : Int32), D) := by
  subst hz
  obtain ⟨c1, c2, c3⟩ := C
  rw [f11, if_pos hi]
  by_cases h1 : i < p
  · rw [if_pos h1, own_bs ri, own_bs rp, if_pos (own_lt' (c1 (own_lt h1))), own_b11 D ob i p q si sq ri rq c3]
  · rw [if_neg h1, own_bs ri, own_bs rp, if_neg (own_nlt' (c2 (own_nlt h1))), own_b11 D ob i p q si sq ri rq c3]
theorem own_n4 (x : Int32) : (2 : Int32) + (x &&& (3 : Int32)) = 2 ∨ (2 : Int32) + (x &&& (3 : Int32)) = 3 ∨ (2 : Int32) + (x &&& (3 : Int32)) = 4 ∨ (2 : Int32) + (x &&& (3 : Int32)) = 5 := by
  have e := c_and x (3 : Int32) (by decide)
  have e3 : (3 : Int32).toInt = 3 := rfl
  obtain ⟨p, hp⟩ := own_fin (x &&& (3 : Int32)) 4 (by omega) (by omega)
  rw [hp]
  clear hp; revert p; decide
def oO1  : List Value := [.int (0 : Int32), .int (0 : Int32), .int (0 : Int32), .int (0 : Int32), .int (0 : Int32)]
def oH2  : Hp := [(0, oO1)]
def oO3 (s0 : Int32) : List Value := [.int s0, .int (0 : Int32), .int (0 : Int32), .int (0 : Int32), .int (0 : Int32)]
def oH4 (s0 : Int32) : Hp := [(0, (oO3 s0))]
def oO5 (s0 s1 : Int32) : List Value := [.int s0, .int s1, .int (0 : Int32), .int (0 : Int32), .int (0 : Int32)]
def oH6 (s0 s1 : Int32) : Hp := [(0, (oO5 s0 s1))]
def oH7 (s0 s1 s2 : Int32) : Hp := [(0, [.int s0, .int s1, .int s2, .int (0 : Int32), .int (0 : Int32)])]
def oH8 (s0 s1 s2 s3 : Int32) : Hp := [(0, [.int s0, .int s1, .int s2, .int s3, .int (0 : Int32)])]
def oH9 (s0 s1 s2 s3 s4 : Int32) : Hp := [(0, [.int s0, .int s1, .int s2, .int s3, .int s4])]
def oH10 (s0 s1 s2 s3 s4 : Int32) : Hp := [(0, [.int s0, .int s1, .int s2, .int s3, .int s4]), (0, [.int (0 : Int32), .int (0 : Int32)])]
def oH11 (s0 s1 s2 s3 s4 : Int32) : Hp := [(0, [.int s0, .int s1, .int s2, .int s3, .int s4]), (0, [.int s0, .int (0 : Int32)])]
def oH12 (s0 s1 s2 s3 s4 : Int32) : Hp := [(0, [.int s0, .int s1, .int s2, .int s3, .int s4]), (0, [.int s0, .int s1])]
def oH13 (s0 s1 s2 s3 s4 : Int32) : Hp := [(0, [.int s0, .int s1, .int s2, .int s3, .int s4]), (0, [.int s0, .int s1]), (1, [.null, .null, .null, .int (0 : Int32)])]
def oH14 (s0 s1 s2 s3 s4 : Int32) : Hp := [(0, [.int s0, .int s1, .int s2, .int s3, .int s4]), (0, [.int s0, .int s1]), (1, [.null, .null, .null, .int (0 : Int32)]), (0, [.int s0, .int s1])]
def oH15 (s0 s1 s2 s3 s4 : Int32) : Hp := [(0, [.int s0, .int s1, .int s2, .int s3, .int s4]), (0, [.int s0, .int s1]), (1, [.ref 3, .null, .null, .int (0 : Int32)]), (0, [.int s0, .int s1])]
def oH16 (s0 s1 s2 s3 s4 : Int32) : Hp := [(0, [.int s0, .int s1, .int s2, .int s3, .int s4]), (0, [.int s0, .int s1]), (1, [.ref 3, .null, .null, .int (0 : Int32)]), (0, [.int s0, .int s1]), (0, [.int (0 : Int32), .int (0 : Int32), .int (0 : Int32)])]
def oH17 (s0 s1 s2 s3 s4 : Int32) : Hp := [(0, [.int s0, .int s1, .int s2, .int s3, .int s4]), (0, [.int s0, .int s1]), (1, [.ref 3, .ref 4, .null, .int (0 : Int32)]), (0, [.int s0, .int s1]), (0, [.int (0 : Int32), .int (0 : Int32), .int (0 : Int32)])]
def oH18 (s0 s1 s2 s3 s4 : Int32) : Hp := [(0, [.int s0, .int s1, .int s2, .int s3, .int s4]), (0, [.int s0, .int s1]), (1, [.ref 3, .ref 4, .null, .int (0 : Int32)]), (0, [.int s0, .int s1]), (0, [.int (0 : Int32), .int ((0 : Int32) + s0), .int (0 : Int32)])]
def oO19 (s0 s1 : Int32) : List Value := [.int (0 : Int32), .int ((0 : Int32) + s0), .int (((0 : Int32) + s0) + s1)]
def oH20 (s0 s1 s2 s3 s4 : Int32) : Hp := [(0, [.int s0, .int s1, .int s2, .int s3, .int s4]), (0, [.int s0, .int s1]), (1, [.ref 3, .ref 4, .null, .int (0 : Int32)]), (0, [.int s0, .int s1]), (0, (oO19 s0 s1))]
def oH21 (s0 s1 s2 s3 s4 : Int32) : Hp := [(0, [.int s0, .int s1, .int s2, .int s3, .int s4]), (0, [.int s0, .int s1]), (1, [.ref 3, .ref 4, .null, .int (0 : Int32)]), (0, [.int s0, .int s1]), (0, (oO19 s0 s1)), (0, [.int (0 : Int32), .int (0 : Int32)])]
def oH22 (s0 s1 s2 s3 s4 : Int32) : Hp := [(0, [.int s0, .int s1, .int s2, .int s3, .int s4]), (0, [.int s0, .int s1]), (1, [.ref 3, .ref 4, .ref 5, .int (0 : Int32)]), (0, [.int s0, .int s1]), (0, (oO19 s0 s1)), (0, [.int (0 : Int32), .int (0 : Int32)])]
def oO23 (s0 s1 : Int32) : List Value := [.int (0 : Int32), .int ((0 : Int32) + (s0 * ((((0 : Int32) + s0) + s1) - ((0 : Int32) + s0))))]
def oH24 (s0 s1 s2 s3 s4 : Int32) : Hp := [(0, [.int s0, .int s1, .int s2, .int s3, .int s4]), (0, [.int s0, .int s1]), (1, [.ref 3, .ref 4, .ref 5, .int (0 : Int32)]), (0, [.int s0, .int s1]), (0, (oO19 s0 s1)), (0, (oO23 s0 s1))]
def oH25 (s0 s1 s2 s3 s4 : Int32) (c : Int64) : Hp := [(0, [.int s0, .int s1, .int s2, .int s3, .int s4]), (0, [.int s0, .int s1]), (1, [.ref 3, .ref 4, .ref 5, .int (c.toInt32)]), (0, [.int s0, .int s1]), (0, (oO19 s0 s1)), (0, (oO23 s0 s1))]
def oH26 (s0 s1 s2 s3 s4 : Int32) (c : Int64) : Hp := [(0, [.int s0, .int s1, .int s2, .int s3, .int s4]), (0, [.int s0, .int s1]), (1, [.ref 3, .ref 4, .ref 5, .int (c.toInt32)]), (0, [.int s0, .int s1]), (0, (oO19 s0 s1)), (0, (oO23 s0 s1)), (0, [.int (0 : Int32), .int (0 : Int32)])]
def oH27 (s0 s1 s2 s3 s4 p2 : Int32) (c : Int64) : Hp := [(0, [.int s0, .int s1, .int s2, .int s3, .int s4]), (0, [.int s0, .int s1]), (1, [.ref 3, .ref 4, .ref 5, .int (c.toInt32)]), (0, [.int s0, .int s1]), (0, (oO19 s0 s1)), (0, (oO23 s0 s1)), (0, [.int p2, .int (0 : Int32)])]
def oH28 (s0 s1 s2 s3 s4 p2 q2 : Int32) (c : Int64) : Hp := [(0, [.int s0, .int s1, .int s2, .int s3, .int s4]), (0, [.int s0, .int s1]), (1, [.ref 3, .ref 4, .ref 5, .int (c.toInt32)]), (0, [.int s0, .int s1]), (0, (oO19 s0 s1)), (0, (oO23 s0 s1)), (0, [.int p2, .int q2])]
def oH29 (s0 s1 s2 s3 s4 : Int32) : Hp := [(0, [.int s0, .int s1, .int s2, .int s3, .int s4]), (0, [.int (0 : Int32), .int (0 : Int32), .int (0 : Int32)])]
def oH30 (s0 s1 s2 s3 s4 : Int32) : Hp := [(0, [.int s0, .int s1, .int s2, .int s3, .int s4]), (0, [.int s0, .int (0 : Int32), .int (0 : Int32)])]
def oH31 (s0 s1 s2 s3 s4 : Int32) : Hp := [(0, [.int s0, .int s1, .int s2, .int s3, .int s4]), (0, [.int s0, .int s1, .int (0 : Int32)])]
def oH32 (s0 s1 s2 s3 s4 : Int32) : Hp := [(0, [.int s0, .int s1, .int s2, .int s3, .int s4]), (0, [.int s0, .int s1, .int s2])]
def oH33 (s0 s1 s2 s3 s4 : Int32) : Hp := [(0, [.int s0, .int s1, .int s2, .int s3, .int s4]), (0, [.int s0, .int s1, .int s2]), (1, [.null, .null, .null, .int (0 : Int32)])]
def oH34 (s0 s1 s2 s3 s4 : Int32) : Hp := [(0, [.int s0, .int s1, .int s2, .int s3, .int s4]), (0, [.int s0, .int s1, .int s2]), (1, [.null, .null, .null, .int (0 : Int32)]), (0, [.int s0, .int s1, .int s2])]
def oH35 (s0 s1 s2 s3 s4 : Int32) : Hp := [(0, [.int s0, .int s1, .int s2, .int s3, .int s4]), (0, [.int s0, .int s1, .int s2]), (1, [.ref 3, .null, .null, .int (0 : Int32)]), (0, [.int s0, .int s1, .int s2])]
def oO36  : List Value := [.int (0 : Int32), .int (0 : Int32), .int (0 : Int32), .int (0 : Int32)]
def oH37 (s0 s1 s2 s3 s4 : Int32) : Hp := [(0, [.int s0, .int s1, .int s2, .int s3, .int s4]), (0, [.int s0, .int s1, .int s2]), (1, [.ref 3, .null, .null, .int (0 : Int32)]), (0, [.int s0, .int s1, .int s2]), (0, oO36)]
def oH38 (s0 s1 s2 s3 s4 : Int32) : Hp := [(0, [.int s0, .int s1, .int s2, .int s3, .int s4]), (0, [.int s0, .int s1, .int s2]), (1, [.ref 3, .ref 4, .null, .int (0 : Int32)]), (0, [.int s0, .int s1, .int s2]), (0, oO36)]
def oO39 (s0 : Int32) : List Value := [.int (0 : Int32), .int ((0 : Int32) + s0), .int (0 : Int32), .int (0 : Int32)]
def oH40 (s0 s1 s2 s3 s4 : Int32) : Hp := [(0, [.int s0, .int s1, .int s2, .int s3, .int s4]), (0, [.int s0, .int s1, .int s2]), (1, [.ref 3, .ref 4, .null, .int (0 : Int32)]), (0, [.int s0, .int s1, .int s2]), (0, (oO39 s0))]
def oO41 (s0 s1 : Int32) : List Value := [.int (0 : Int32), .int ((0 : Int32) + s0), .int (((0 : Int32) + s0) + s1), .int (0 : Int32)]
def oH42 (s0 s1 s2 s3 s4 : Int32) : Hp := [(0, [.int s0, .int s1, .int s2, .int s3, .int s4]), (0, [.int s0, .int s1, .int s2]), (1, [.ref 3, .ref 4, .null, .int (0 : Int32)]), (0, [.int s0, .int s1, .int s2]), (0, (oO41 s0 s1))]
def oO43 (s0 s1 s2 : Int32) : List Value := [.int (0 : Int32), .int ((0 : Int32) + s0), .int (((0 : Int32) + s0) + s1), .int ((((0 : Int32) + s0) + s1) + s2)]
def oH44 (s0 s1 s2 s3 s4 : Int32) : Hp := [(0, [.int s0, .int s1, .int s2, .int s3, .int s4]), (0, [.int s0, .int s1, .int s2]), (1, [.ref 3, .ref 4, .null, .int (0 : Int32)]), (0, [.int s0, .int s1, .int s2]), (0, (oO43 s0 s1 s2))]
def oH45 (s0 s1 s2 s3 s4 : Int32) : Hp := [(0, [.int s0, .int s1, .int s2, .int s3, .int s4]), (0, [.int s0, .int s1, .int s2]), (1, [.ref 3, .ref 4, .null, .int (0 : Int32)]), (0, [.int s0, .int s1, .int s2]), (0, (oO43 s0 s1 s2)), (0, [.int (0 : Int32), .int (0 : Int32), .int (0 : Int32)])]
def oH46 (s0 s1 s2 s3 s4 : Int32) : Hp := [(0, [.int s0, .int s1, .int s2, .int s3, .int s4]), (0, [.int s0, .int s1, .int s2]), (1, [.ref 3, .ref 4, .ref 5, .int (0 : Int32)]), (0, [.int s0, .int s1, .int s2]), (0, (oO43 s0 s1 s2)), (0, [.int (0 : Int32), .int (0 : Int32), .int (0 : Int32)])]
def oO47 (s0 s1 s2 : Int32) : List Value := [.int (0 : Int32), .int ((0 : Int32) + (s0 * (((((0 : Int32) + s0) + s1) + s2) - ((0 : Int32) + s0)))), .int (0 : Int32)]
def oH48 (s0 s1 s2 s3 s4 : Int32) : Hp := [(0, [.int s0, .int s1, .int s2, .int s3, .int s4]), (0, [.int s0, .int s1, .int s2]), (1, [.ref 3, .ref 4, .ref 5, .int (0 : Int32)]), (0, [.int s0, .int s1, .int s2]), (0, (oO43 s0 s1 s2)), (0, (oO47 s0 s1 s2))]
def oO49 (s0 s1 s2 : Int32) : List Value := [.int (0 : Int32), .int ((0 : Int32) + (s0 * (((((0 : Int32) + s0) + s1) + s2) - ((0 : Int32) + s0)))), .int (((0 : Int32) + (s0 * (((((0 : Int32) + s0) + s1) + s2) - ((0 : Int32) + s0)))) + (s1 * (((((0 : Int32) + s0) + s1) + s2) - (((0 : Int32) + s0) + s1))))]
def oH50 (s0 s1 s2 s3 s4 : Int32) : Hp := [(0, [.int s0, .int s1, .int s2, .int s3, .int s4]), (0, [.int s0, .int s1, .int s2]), (1, [.ref 3, .ref 4, .ref 5, .int (0 : Int32)]), (0, [.int s0, .int s1, .int s2]), (0, (oO43 s0 s1 s2)), (0, (oO49 s0 s1 s2))]
def oH51 (s0 s1 s2 s3 s4 : Int32) (c : Int64) : Hp := [(0, [.int s0, .int s1, .int s2, .int s3, .int s4]), (0, [.int s0, .int s1, .int s2]), (1, [.ref 3, .ref 4, .ref 5, .int (c.toInt32)]), (0, [.int s0, .int s1, .int s2]), (0, (oO43 s0 s1 s2)), (0, (oO49 s0 s1 s2))]
def oH52 (s0 s1 s2 s3 s4 : Int32) (c : Int64) : Hp := [(0, [.int s0, .int s1, .int s2, .int s3, .int s4]), (0, [.int s0, .int s1, .int s2]), (1, [.ref 3, .ref 4, .ref 5, .int (c.toInt32)]), (0, [.int s0, .int s1, .int s2]), (0, (oO43 s0 s1 s2)), (0, (oO49 s0 s1 s2)), (0, [.int (0 : Int32), .int (0 : Int32)])]
def oH53 (s0 s1 s2 s3 s4 p3 : Int32) (c : Int64) : Hp := [(0, [.int s0, .int s1, .int s2, .int s3, .int s4]), (0, [.int s0, .int s1, .int s2]), (1, [.ref 3, .ref 4, .ref 5, .int (c.toInt32)]), (0, [.int s0, .int s1, .int s2]), (0, (oO43 s0 s1 s2)), (0, (oO49 s0 s1 s2)), (0, [.int p3, .int (0 : Int32)])]
def oH54 (s0 s1 s2 s3 s4 p3 q3 : Int32) (c : Int64) : Hp := [(0, [.int s0, .int s1, .int s2, .int s3, .int s4]), (0, [.int s0, .int s1, .int s2]), (1, [.ref 3, .ref 4, .ref 5, .int (c.toInt32)]), (0, [.int s0, .int s1, .int s2]), (0, (oO43 s0 s1 s2)), (0, (oO49 s0 s1 s2)), (0, [.int p3, .int q3])]
def oH55 (s0 s1 s2 s3 s4 : Int32) : Hp := [(0, [.int s0, .int s1, .int s2, .int s3, .int s4]), (0, oO36)]
def oH56 (s0 s1 s2 s3 s4 : Int32) : Hp := [(0, [.int s0, .int s1, .int s2, .int s3, .int s4]), (0, [.int s0, .int (0 : Int32), .int (0 : Int32), .int (0 : Int32)])]
def oH57 (s0 s1 s2 s3 s4 : Int32) : Hp := [(0, [.int s0, .int s1, .int s2, .int s3, .int s4]), (0, [.int s0, .int s1, .int (0 : Int32), .int (0 : Int32)])]
def oH58 (s0 s1 s2 s3 s4 : Int32) : Hp := [(0, [.int s0, .int s1, .int s2, .int s3, .int s4]), (0, [.int s0, .int s1, .int s2, .int (0 : Int32)])]
def oH59 (s0 s1 s2 s3 s4 : Int32) : Hp := [(0, [.int s0, .int s1, .int s2, .int s3, .int s4]), (0, [.int s0, .int s1, .int s2, .int s3])]
def oH60 (s0 s1 s2 s3 s4 : Int32) : Hp := [(0, [.int s0, .int s1, .int s2, .int s3, .int s4]), (0, [.int s0, .int s1, .int s2, .int s3]), (1, [.null, .null, .null, .int (0 : Int32)])]
def oH61 (s0 s1 s2 s3 s4 : Int32) : Hp := [(0, [.int s0, .int s1, .int s2, .int s3, .int s4]), (0, [.int s0, .int s1, .int s2, .int s3]), (1, [.null, .null, .null, .int (0 : Int32)]), (0, [.int s0, .int s1, .int s2, .int s3])]
def oH62 (s0 s1 s2 s3 s4 : Int32) : Hp := [(0, [.int s0, .int s1, .int s2, .int s3, .int s4]), (0, [.int s0, .int s1, .int s2, .int s3]), (1, [.ref 3, .null, .null, .int (0 : Int32)]), (0, [.int s0, .int s1, .int s2, .int s3])]
def oH63 (s0 s1 s2 s3 s4 : Int32) : Hp := [(0, [.int s0, .int s1, .int s2, .int s3, .int s4]), (0, [.int s0, .int s1, .int s2, .int s3]), (1, [.ref 3, .null, .null, .int (0 : Int32)]), (0, [.int s0, .int s1, .int s2, .int s3]), (0, oO1)]
def oH64 (s0 s1 s2 s3 s4 : Int32) : Hp := [(0, [.int s0, .int s1, .int s2, .int s3, .int s4]), (0, [.int s0, .int s1, .int s2, .int s3]), (1, [.ref 3, .ref 4, .null, .int (0 : Int32)]), (0, [.int s0, .int s1, .int s2, .int s3]), (0, oO1)]
def oO65 (s0 : Int32) : List Value := [.int (0 : Int32), .int ((0 : Int32) + s0), .int (0 : Int32), .int (0 : Int32), .int (0 : Int32)]
def oH66 (s0 s1 s2 s3 s4 : Int32) : Hp := [(0, [.int s0, .int s1, .int s2, .int s3, .int s4]), (0, [.int s0, .int s1, .int s2, .int s3]), (1, [.ref 3, .ref 4, .null, .int (0 : Int32)]), (0, [.int s0, .int s1, .int s2, .int s3]), (0, (oO65 s0))]
def oO67 (s0 s1 : Int32) : List Value := [.int (0 : Int32), .int ((0 : Int32) + s0), .int (((0 : Int32) + s0) + s1), .int (0 : Int32), .int (0 : Int32)]
def oH68 (s0 s1 s2 s3 s4 : Int32) : Hp := [(0, [.int s0, .int s1, .int s2, .int s3, .int s4]), (0, [.int s0, .int s1, .int s2, .int s3]), (1, [.ref 3, .ref 4, .null, .int (0 : Int32)]), (0, [.int s0, .int s1, .int s2, .int s3]), (0, (oO67 s0 s1))]
def oO69 (s0 s1 s2 : Int32) : List Value := [.int (0 : Int32), .int ((0 : Int32) + s0), .int (((0 : Int32) + s0) + s1), .int ((((0 : Int32) + s0) + s1) + s2), .int (0 : Int32)]
def oH70 (s0 s1 s2 s3 s4 : Int32) : Hp := [(0, [.int s0, .int s1, .int s2, .int s3, .int s4]), (0, [.int s0, .int s1, .int s2, .int s3]), (1, [.ref 3, .ref 4, .null, .int (0 : Int32)]), (0, [.int s0, .int s1, .int s2, .int s3]), (0, (oO69 s0 s1 s2))]
def oO71 (s0 s1 s2 s3 : Int32) : List Value := [.int (0 : Int32), .int ((0 : Int32) + s0), .int (((0 : Int32) + s0) + s1), .int ((((0 : Int32) + s0) + s1) + s2), .int (((((0 : Int32) + s0) + s1) + s2) + s3)]
def oH72 (s0 s1 s2 s3 s4 : Int32) : Hp := [(0, [.int s0, .int s1, .int s2, .int s3, .int s4]), (0, [.int s0, .int s1, .int s2, .int s3]), (1, [.ref 3, .ref 4, .null, .int (0 : Int32)]), (0, [.int s0, .int s1, .int s2, .int s3]), (0, (oO71 s0 s1 s2 s3))]
def oH73 (s0 s1 s2 s3 s4 : Int32) : Hp := [(0, [.int s0, .int s1, .int s2, .int s3, .int s4]), (0, [.int s0, .int s1, .int s2, .int s3]), (1, [.ref 3, .ref 4, .null, .int (0 : Int32)]), (0, [.int s0, .int s1, .int s2, .int s3]), (0, (oO71 s0 s1 s2 s3)), (0, oO36)]
def oH74 (s0 s1 s2 s3 s4 : Int32) : Hp := [(0, [.int s0, .int s1, .int s2, .int s3, .int s4]), (0, [.int s0, .int s1, .int s2, .int s3]), (1, [.ref 3, .ref 4, .ref 5, .int (0 : Int32)]), (0, [.int s0, .int s1, .int s2, .int s3]), (0, (oO71 s0 s1 s2 s3)), (0, oO36)]
def oO75 (s0 s1 s2 s3 : Int32) : List Value := [.int (0 : Int32), .int ((0 : Int32) + (s0 * ((((((0 : Int32) + s0) + s1) + s2) + s3) - ((0 : Int32) + s0)))), .int (0 : Int32), .int (0 : Int32)]
def oH76 (s0 s1 s2 s3 s4 : Int32) : Hp := [(0, [.int s0, .int s1, .int s2, .int s3, .int s4]), (0, [.int s0, .int s1, .int s2, .int s3]), (1, [.ref 3, .ref 4, .ref 5, .int (0 : Int32)]), (0, [.int s0, .int s1, .int s2, .int s3]), (0, (oO71 s0 s1 s2 s3)), (0, (oO75 s0 s1 s2 s3))]
def oO77 (s0 s1 s2 s3 : Int32) : List Value := [.int (0 : Int32), .int ((0 : Int32) + (s0 * ((((((0 : Int32) + s0) + s1) + s2) + s3) - ((0 : Int32) + s0)))), .int (((0 : Int32) + (s0 * ((((((0 : Int32) + s0) + s1) + s2) + s3) - ((0 : Int32) + s0)))) + (s1 * ((((((0 : Int32) + s0) + s1) + s2) + s3) - (((0 : Int32) + s0) + s1)))), .int (0 : Int32)]
def oH78 (s0 s1 s2 s3 s4 : Int32) : Hp := [(0, [.int s0, .int s1, .int s2, .int s3, .int s4]), (0, [.int s0, .int s1, .int s2, .int s3]), (1, [.ref 3, .ref 4, .ref 5, .int (0 : Int32)]), (0, [.int s0, .int s1, .int s2, .int s3]), (0, (oO71 s0 s1 s2 s3)), (0, (oO77 s0 s1 s2 s3))]
def oO79 (s0 s1 s2 s3 : Int32) : List Value := [.int (0 : Int32), .int ((0 : Int32) + (s0 * ((((((0 : Int32) + s0) + s1) + s2) + s3) - ((0 : Int32) + s0)))), .int (((0 : Int32) + (s0 * ((((((0 : Int32) + s0) + s1) + s2) + s3) - ((0 : Int32) + s0)))) + (s1 * ((((((0 : Int32) + s0) + s1) + s2) + s3) - (((0 : Int32) + s0) + s1)))), .int ((((0 : Int32) + (s0 * ((((((0 : Int32) + s0) + s1) + s2) + s3) - ((0 : Int32) + s0)))) + (s1 * ((((((0 : Int32) + s0) + s1) + s2) + s3) - (((0 : Int32) + s0) + s1)))) + (s2 * ((((((0 : Int32) + s0) + s1) + s2) + s3) - ((((0 : Int32) + s0) + s1) + s2))))]
def oH80 (s0 s1 s2 s3 s4 : Int32) : Hp := [(0, [.int s0, .int s1, .int s2, .int s3, .int s4]), (0, [.int s0, .int s1, .int s2, .int s3]), (1, [.ref 3, .ref 4, .ref 5, .int (0 : Int32)]), (0, [.int s0, .int s1, .int s2, .int s3]), (0, (oO71 s0 s1 s2 s3)), (0, (oO79 s0 s1 s2 s3))]
def oH81 (s0 s1 s2 s3 s4 : Int32) (c : Int64) : Hp := [(0, [.int s0, .int s1, .int s2, .int s3, .int s4]), (0, [.int s0, .int s1, .int s2, .int s3]), (1, [.ref 3, .ref 4, .ref 5, .int (c.toInt32)]), (0, [.int s0, .int s1, .int s2, .int s3]), (0, (oO71 s0 s1 s2 s3)), (0, (oO79 s0 s1 s2 s3))]
def oH82 (s0 s1 s2 s3 s4 : Int32) (c : Int64) : Hp := [(0, [.int s0, .int s1, .int s2, .int s3, .int s4]), (0, [.int s0, .int s1, .int s2, .int s3]), (1, [.ref 3, .ref 4, .ref 5, .int (c.toInt32)]), (0, [.int s0, .int s1, .int s2, .int s3]), (0, (oO71 s0 s1 s2 s3)), (0, (oO79 s0 s1 s2 s3)), (0, [.int (0 : Int32), .int (0 : Int32)])]
def oH83 (s0 s1 s2 s3 s4 p4 : Int32) (c : Int64) : Hp := [(0, [.int s0, .int s1, .int s2, .int s3, .int s4]), (0, [.int s0, .int s1, .int s2, .int s3]), (1, [.ref 3, .ref 4, .ref 5, .int (c.toInt32)]), (0, [.int s0, .int s1, .int s2, .int s3]), (0, (oO71 s0 s1 s2 s3)), (0, (oO79 s0 s1 s2 s3)), (0, [.int p4, .int (0 : Int32)])]
def oH84 (s0 s1 s2 s3 s4 p4 q4 : Int32) (c : Int64) : Hp := [(0, [.int s0, .int s1, .int s2, .int s3, .int s4]), (0, [.int s0, .int s1, .int s2, .int s3]), (1, [.ref 3, .ref 4, .ref 5, .int (c.toInt32)]), (0, [.int s0, .int s1, .int s2, .int s3]), (0, (oO71 s0 s1 s2 s3)), (0, (oO79 s0 s1 s2 s3)), (0, [.int p4, .int q4])]
def oH85 (s0 s1 s2 s3 s4 : Int32) : Hp := [(0, [.int s0, .int s1, .int s2, .int s3, .int s4]), (0, oO1)]
def oH86 (s0 s1 s2 s3 s4 : Int32) : Hp := [(0, [.int s0, .int s1, .int s2, .int s3, .int s4]), (0, (oO3 s0))]
def oH87 (s0 s1 s2 s3 s4 : Int32) : Hp := [(0, [.int s0, .int s1, .int s2, .int s3, .int s4]), (0, (oO5 s0 s1))]
def oH88 (s0 s1 s2 s3 s4 : Int32) : Hp := [(0, [.int s0, .int s1, .int s2, .int s3, .int s4]), (0, [.int s0, .int s1, .int s2, .int (0 : Int32), .int (0 : Int32)])]
def oH89 (s0 s1 s2 s3 s4 : Int32) : Hp := [(0, [.int s0, .int s1, .int s2, .int s3, .int s4]), (0, [.int s0, .int s1, .int s2, .int s3, .int (0 : Int32)])]
def oH90 (s0 s1 s2 s3 s4 : Int32) : Hp := [(0, [.int s0, .int s1, .int s2, .int s3, .int s4]), (0, [.int s0, .int s1, .int s2, .int s3, .int s4])]
def oH91 (s0 s1 s2 s3 s4 : Int32) : Hp := [(0, [.int s0, .int s1, .int s2, .int s3, .int s4]), (0, [.int s0, .int s1, .int s2, .int s3, .int s4]), (1, [.null, .null, .null, .int (0 : Int32)])]
def oH92 (s0 s1 s2 s3 s4 : Int32) : Hp := [(0, [.int s0, .int s1, .int s2, .int s3, .int s4]), (0, [.int s0, .int s1, .int s2, .int s3, .int s4]), (1, [.null, .null, .null, .int (0 : Int32)]), (0, [.int s0, .int s1, .int s2, .int s3, .int s4])]
def oH93 (s0 s1 s2 s3 s4 : Int32) : Hp := [(0, [.int s0, .int s1, .int s2, .int s3, .int s4]), (0, [.int s0, .int s1, .int s2, .int s3, .int s4]), (1, [.ref 3, .null, .null, .int (0 : Int32)]), (0, [.int s0, .int s1, .int s2, .int s3, .int s4])]
def oO94  : List Value := [.int (0 : Int32), .int (0 : Int32), .int (0 : Int32), .int (0 : Int32), .int (0 : Int32), .int (0 : Int32)]
def oH95 (s0 s1 s2 s3 s4 : Int32) : Hp := [(0, [.int s0, .int s1, .int s2, .int s3, .int s4]), (0, [.int s0, .int s1, .int s2, .int s3, .int s4]), (1, [.ref 3, .null, .null, .int (0 : Int32)]), (0, [.int s0, .int s1, .int s2, .int s3, .int s4]), (0, oO94)]
def oH96 (s0 s1 s2 s3 s4 : Int32) : Hp := [(0, [.int s0, .int s1, .int s2, .int s3, .int s4]), (0, [.int s0, .int s1, .int s2, .int s3, .int s4]), (1, [.ref 3, .ref 4, .null, .int (0 : Int32)]), (0, [.int s0, .int s1, .int s2, .int s3, .int s4]), (0, oO94)]
def oO97 (s0 : Int32) : List Value := [.int (0 : Int32), .int ((0 : Int32) + s0), .int (0 : Int32), .int (0 : Int32), .int (0 : Int32), .int (0 : Int32)]
def oH98 (s0 s1 s2 s3 s4 : Int32) : Hp := [(0, [.int s0, .int s1, .int s2, .int s3, .int s4]), (0, [.int s0, .int s1, .int s2, .int s3, .int s4]), (1, [.ref 3, .ref 4, .null, .int (0 : Int32)]), (0, [.int s0, .int s1, .int s2, .int s3, .int s4]), (0, (oO97 s0))]
def oO99 (s0 s1 : Int32) : List Value := [.int (0 : Int32), .int ((0 : Int32) + s0), .int (((0 : Int32) + s0) + s1), .int (0 : Int32), .int (0 : Int32), .int (0 : Int32)]
def oH100 (s0 s1 s2 s3 s4 : Int32) : Hp := [(0, [.int s0, .int s1, .int s2, .int s3, .int s4]), (0, [.int s0, .int s1, .int s2, .int s3, .int s4]), (1, [.ref 3, .ref 4, .null, .int (0 : Int32)]), (0, [.int s0, .int s1, .int s2, .int s3, .int s4]), (0, (oO99 s0 s1))]
def oO101 (s0 s1 s2 : Int32) : List Value := [.int (0 : Int32), .int ((0 : Int32) + s0), .int (((0 : Int32) + s0) + s1), .int ((((0 : Int32) + s0) + s1) + s2), .int (0 : Int32), .int (0 : Int32)]
def oH102 (s0 s1 s2 s3 s4 : Int32) : Hp := [(0, [.int s0, .int s1, .int s2, .int s3, .int s4]), (0, [.int s0, .int s1, .int s2, .int s3, .int s4]), (1, [.ref 3, .ref 4, .null, .int (0 : Int32)]), (0, [.int s0, .int s1, .int s2, .int s3, .int s4]), (0, (oO101 s0 s1 s2))]
def oO103 (s0 s1 s2 s3 : Int32) : List Value := [.int (0 : Int32), .int ((0 : Int32) + s0), .int (((0 : Int32) + s0) + s1), .int ((((0 : Int32) + s0) + s1) + s2), .int (((((0 : Int32) + s0) + s1) + s2) + s3), .int (0 : Int32)]
def oH104 (s0 s1 s2 s3 s4 : Int32) : Hp := [(0, [.int s0, .int s1, .int s2, .int s3, .int s4]), (0, [.int s0, .int s1, .int s2, .int s3, .int s4]), (1, [.ref 3, .ref 4, .null, .int (0 : Int32)]), (0, [.int s0, .int s1, .int s2, .int s3, .int s4]), (0, (oO103 s0 s1 s2 s3))]
def oO105 (s0 s1 s2 s3 s4 : Int32) : List Value := [.int (0 : Int32), .int ((0 : Int32) + s0), .int (((0 : Int32) + s0) + s1), .int ((((0 : Int32) + s0) + s1) + s2), .int (((((0 : Int32) + s0) + s1) + s2) + s3), .int ((((((0 : Int32) + s0) + s1) + s2) + s3) + s4)]
def oH106 (s0 s1 s2 s3 s4 : Int32) : Hp := [(0, [.int s0, .int s1, .int s2, .int s3, .int s4]), (0, [.int s0, .int s1, .int s2, .int s3, .int s4]), (1, [.ref 3, .ref 4, .null, .int (0 : Int32)]), (0, [.int s0, .int s1, .int s2, .int s3, .int s4]), (0, (oO105 s0 s1 s2 s3 s4))]
def oH107 (s0 s1 s2 s3 s4 : Int32) : Hp := [(0, [.int s0, .int s1, .int s2, .int s3, .int s4]), (0, [.int s0, .int s1, .int s2, .int s3, .int s4]), (1, [.ref 3, .ref 4, .null, .int (0 : Int32)]), (0, [.int s0, .int s1, .int s2, .int s3, .int s4]), (0, (oO105 s0 s1 s2 s3 s4)), (0, oO1)]
def oH108 (s0 s1 s2 s3 s4 : Int32) : Hp := [(0, [.int s0, .int s1, .int s2, .int s3, .int s4]), (0, [.int s0, .int s1, .int s2, .int s3, .int s4]), (1, [.ref 3, .ref 4, .ref 5, .int (0 : Int32)]), (0, [.int s0, .int s1, .int s2, .int s3, .int s4]), (0, (oO105 s0 s1 s2 s3 s4)), (0, oO1)]
def oO109 (s0 s1 s2 s3 s4 : Int32) : List Value := [.int (0 : Int32), .int ((0 : Int32) + (s0 * (((((((0 : Int32) + s0) + s1) + s2) + s3) + s4) - ((0 : Int32) + s0)))), .int (0 : Int32), .int (0 : Int32), .int (0 : Int32)]
def oH110 (s0 s1 s2 s3 s4 : Int32) : Hp := [(0, [.int s0, .int s1, .int s2, .int s3, .int s4]), (0, [.int s0, .int s1, .int s2, .int s3, .int s4]), (1, [.ref 3, .ref 4, .ref 5, .int (0 : Int32)]), (0, [.int s0, .int s1, .int s2, .int s3, .int s4]), (0, (oO105 s0 s1 s2 s3 s4)), (0, (oO109 s0 s1 s2 s3 s4))]
def oO111 (s0 s1 s2 s3 s4 : Int32) : List Value := [.int (0 : Int32), .int ((0 : Int32) + (s0 * (((((((0 : Int32) + s0) + s1) + s2) + s3) + s4) - ((0 : Int32) + s0)))), .int (((0 : Int32) + (s0 * (((((((0 : Int32) + s0) + s1) + s2) + s3) + s4) - ((0 : Int32) + s0)))) + (s1 * (((((((0 : Int32) + s0) + s1) + s2) + s3) + s4) - (((0 : Int32) + s0) + s1)))), .int (0 : Int32), .int (0 : Int32)]
def oH112 (s0 s1 s2 s3 s4 : Int32) : Hp := [(0, [.int s0, .int s1, .int s2, .int s3, .int s4]), (0, [.int s0, .int s1, .int s2, .int s3, .int s4]), (1, [.ref 3, .ref 4, .ref 5, .int (0 : Int32)]), (0, [.int s0, .int s1, .int s2, .int s3, .int s4]), (0, (oO105 s0 s1 s2 s3 s4)), (0, (oO111 s0 s1 s2 s3 s4))]
def oO113 (s0 s1 s2 s3 s4 : Int32) : List Value := [.int (0 : Int32), .int ((0 : Int32) + (s0 * (((((((0 : Int32) + s0) + s1) + s2) + s3) + s4) - ((0 : Int32) + s0)))), .int (((0 : Int32) + (s0 * (((((((0 : Int32) + s0) + s1) + s2) + s3) + s4) - ((0 : Int32) + s0)))) + (s1 * (((((((0 : Int32) + s0) + s1) + s2) + s3) + s4) - (((0 : Int32) + s0) + s1)))), .int ((((0 : Int32) + (s0 * (((((((0 : Int32) + s0) + s1) + s2) + s3) + s4) - ((0 : Int32) + s0)))) + (s1 * (((((((0 : Int32) + s0) + s1) + s2) + s3) + s4) - (((0 : Int32) + s0) + s1)))) + (s2 * (((((((0 : Int32) + s0) + s1) + s2) + s3) + s4) - ((((0 : Int32) + s0) + s1) + s2)))), .int (0 : Int32)]
def oH114 (s0 s1 s2 s3 s4 : Int32) : Hp := [(0, [.int s0, .int s1, .int s2, .int s3, .int s4]), (0, [.int s0, .int s1, .int s2, .int s3, .int s4]), (1, [.ref 3, .ref 4, .ref 5, .int (0 : Int32)]), (0, [.int s0, .int s1, .int s2, .int s3, .int s4]), (0, (oO105 s0 s1 s2 s3 s4)), (0, (oO113 s0 s1 s2 s3 s4))]
def oO115 (s0 s1 s2 s3 s4 : Int32) : List Value := [.int (0 : Int32), .int ((0 : Int32) + (s0 * (((((((0 : Int32) + s0) + s1) + s2) + s3) + s4) - ((0 : Int32) + s0)))), .int (((0 : Int32) + (s0 * (((((((0 : Int32) + s0) + s1) + s2) + s3) + s4) - ((0 : Int32) + s0)))) + (s1 * (((((((0 : Int32) + s0) + s1) + s2) + s3) + s4) - (((0 : Int32) + s0) + s1)))), .int ((((0 : Int32) + (s0 * (((((((0 : Int32) + s0) + s1) + s2) + s3) + s4) - ((0 : Int32) + s0)))) + (s1 * (((((((0 : Int32) + s0) + s1) + s2) + s3) + s4) - (((0 : Int32) + s0) + s1)))) + (s2 * (((((((0 : Int32) + s0) + s1) + s2) + s3) + s4) - ((((0 : Int32) + s0) + s1) + s2)))), .int (((((0 : Int32) + (s0 * (((((((0 : Int32) + s0) + s1) + s2) + s3) + s4) - ((0 : Int32) + s0)))) + (s1 * (((((((0 : Int32) + s0) + s1) + s2) + s3) + s4) - (((0 : Int32) + s0) + s1)))) + (s2 * (((((((0 : Int32) + s0) + s1) + s2) + s3) + s4) - ((((0 : Int32) + s0) + s1) + s2)))) + (s3 * (((((((0 : Int32) + s0) + s1) + s2) + s3) + s4) - (((((0 : Int32) + s0) + s1) + s2) + s3))))]
def oH116 (s0 s1 s2 s3 s4 : Int32) : Hp := [(0, [.int s0, .int s1, .int s2, .int s3, .int s4]), (0, [.int s0, .int s1, .int s2, .int s3, .int s4]), (1, [.ref 3, .ref 4, .ref 5, .int (0 : Int32)]), (0, [.int s0, .int s1, .int s2, .int s3, .int s4]), (0, (oO105 s0 s1 s2 s3 s4)), (0, (oO115 s0 s1 s2 s3 s4))]
def oH117 (s0 s1 s2 s3 s4 : Int32) (c : Int64) : Hp := [(0, [.int s0, .int s1, .int s2, .int s3, .int s4]), (0, [.int s0, .int s1, .int s2, .int s3, .int s4]), (1, [.ref 3, .ref 4, .ref 5, .int (c.toInt32)]), (0, [.int s0, .int s1, .int s2, .int s3, .int s4]), (0, (oO105 s0 s1 s2 s3 s4)), (0, (oO115 s0 s1 s2 s3 s4))]
def oH118 (s0 s1 s2 s3 s4 : Int32) (c : Int64) : Hp := [(0, [.int s0, .int s1, .int s2, .int s3, .int s4]), (0, [.int s0, .int s1, .int s2, .int s3, .int s4]), (1, [.ref 3, .ref 4, .ref 5, .int (c.toInt32)]), (0, [.int s0, .int s1, .int s2, .int s3, .int s4]), (0, (oO105 s0 s1 s2 s3 s4)), (0, (oO115 s0 s1 s2 s3 s4)), (0, [.int (0 : Int32), .int (0 : Int32)])]
def oH119 (s0 s1 s2 s3 s4 p5 : Int32) (c : Int64) : Hp := [(0, [.int s0, .int s1, .int s2, .int s3, .int s4]), (0, [.int s0, .int s1, .int s2, .int s3, .int s4]), (1, [.ref 3, .ref 4, .ref 5, .int (c.toInt32)]), (0, [.int s0, .int s1, .int s2, .int s3, .int s4]), (0, (oO105 s0 s1 s2 s3 s4)), (0, (oO115 s0 s1 s2 s3 s4)), (0, [.int p5, .int (0 : Int32)])]
def oH120 (s0 s1 s2 s3 s4 p5 q5 : Int32) (c : Int64) : Hp := [(0, [.int s0, .int s1, .int s2, .int s3, .int s4]), (0, [.int s0, .int s1, .int s2, .int s3, .int s4]), (1, [.ref 3, .ref 4, .ref 5, .int (c.toInt32)]), (0, [.int s0, .int s1, .int s2, .int s3, .int s4]), (0, (oO105 s0 s1 s2 s3 s4)), (0, (oO115 s0 s1 s2 s3 s4)), (0, [.int p5, .int q5])]
set_option maxRecDepth 20000 in
set_option maxHeartbeats 4000000 in
theorem own_f3_2 (s0 s1 s2 s3 s4 : Int32) (h0 : 0 ≤ s0.toInt ∧ s0.toInt ≤ 512) (h1 : 0 ≤ s1.toInt ∧ s1.toInt ≤ 512) : ∃ c : Int64, f3 (oH13 s0 s1 s2 s3 s4) 2 1 = some (oH25 s0 s1 s2 s3 s4 c) := by
  obtain ⟨c, hp, hc⟩ := own_pc2 (oH13 s0 s1 s2 s3 s4) 1 s0 s1 rfl h0 h1
  refine ⟨c, ?_⟩
  rw [f3]
  rw [hp]
  rw [Option.bind_some]
  rw [own_letP1]
  rw [own_letP2]
  rw [if_neg (own_big c hc)]
  rw [own_letV (show List.length (oH13 s0 s1 s2 s3 s4) = 3 from rfl)]
  rw [own_bs (show cA' (oH13 s0 s1 s2 s3 s4) 1 0 8 = some (oH14 s0 s1 s2 s3 s4) from rfl)]
  rw [own_bs (show ck (oH14 s0 s1 s2 s3 s4) 3 0 = some 0 from rfl)]
  rw [own_bs (show pV (oH14 s0 s1 s2 s3 s4) 2 1 0 (.ref 3) = some (oH15 s0 s1 s2 s3 s4) from rfl)]
  rw [own_bs (show lA (oH15 s0 s1 s2 s3 s4) 1 0 = some (2 : Int32) from rfl)]
  rw [own_letV (show List.length (oH15 s0 s1 s2 s3 s4) = 4 from rfl)]
  rw [own_bs (show nA (oH15 s0 s1 s2 s3 s4) 0 ((2 : Int32) + (1 : Int32)) 8 (.int (0 : Int32)) = some (oH16 s0 s1 s2 s3 s4) from rfl)]
  rw [own_bs (show pV (oH16 s0 s1 s2 s3 s4) 2 1 1 (.ref 4) = some (oH17 s0 s1 s2 s3 s4) from rfl)]
  rw [b3_55]
  rw [own_bs (show lA (oH17 s0 s1 s2 s3 s4) 1 0 = some (2 : Int32) from rfl)]
  rw [if_pos (by decide : ((0 : Int32) < (2 : Int32)))]
  rw [own_bs (show gR (oH17 s0 s1 s2 s3 s4) 2 1 1 = some 4 from rfl)]
  rw [own_bs (show gR (oH17 s0 s1 s2 s3 s4) 2 1 1 = some 4 from rfl)]
  rw [own_bs (show rI (oH17 s0 s1 s2 s3 s4) 4 0 (0 : Int32) = some (0 : Int32) from rfl)]
  rw [own_bs (show rI (oH17 s0 s1 s2 s3 s4) 1 0 (0 : Int32) = some s0 from rfl)]
  rw [own_bs (show wV (oH17 s0 s1 s2 s3 s4) 4 0 ((0 : Int32) + (1 : Int32)) (.int ((0 : Int32) + s0)) = some (oH18 s0 s1 s2 s3 s4) from rfl)]
  try rw [show ((0 : Int32) + (1 : Int32)) = (1 : Int32) from rfl]
  rw [b3_55]
  rw [own_bs (show lA (oH18 s0 s1 s2 s3 s4) 1 0 = some (2 : Int32) from rfl)]
  rw [if_pos (by decide : ((1 : Int32) < (2 : Int32)))]
  rw [own_bs (show gR (oH18 s0 s1 s2 s3 s4) 2 1 1 = some 4 from rfl)]
  rw [own_bs (show gR (oH18 s0 s1 s2 s3 s4) 2 1 1 = some 4 from rfl)]
  rw [own_bs (show rI (oH18 s0 s1 s2 s3 s4) 4 0 (1 : Int32) = some ((0 : Int32) + s0) from rfl)]
  rw [own_bs (show rI (oH18 s0 s1 s2 s3 s4) 1 0 (1 : Int32) = some s1 from rfl)]
  rw [own_bs (show wV (oH18 s0 s1 s2 s3 s4) 4 0 ((1 : Int32) + (1 : Int32)) (.int (((0 : Int32) + s0) + s1)) = some (oH20 s0 s1 s2 s3 s4) from rfl)]
  try rw [show ((1 : Int32) + (1 : Int32)) = (2 : Int32) from rfl]
  rw [b3_55]
  rw [own_bs (show lA (oH20 s0 s1 s2 s3 s4) 1 0 = some (2 : Int32) from rfl)]
  rw [if_neg (by decide : ¬ ((2 : Int32) < (2 : Int32)))]
  rw [own_bs (show lA (oH20 s0 s1 s2 s3 s4) 1 0 = some (2 : Int32) from rfl)]
  rw [own_letV (show List.length (oH20 s0 s1 s2 s3 s4) = 5 from rfl)]
  rw [own_bs (show nA (oH20 s0 s1 s2 s3 s4) 0 (2 : Int32) 8 (.int (0 : Int32)) = some (oH21 s0 s1 s2 s3 s4) from rfl)]
  rw [own_bs (show pV (oH21 s0 s1 s2 s3 s4) 2 1 2 (.ref 5) = some (oH22 s0 s1 s2 s3 s4) from rfl)]
  rw [b3_100]
  rw [own_bs (show lA (oH22 s0 s1 s2 s3 s4) 1 0 = some (2 : Int32) from rfl)]
  rw [if_pos (by decide : ((1 : Int32) < (2 : Int32)))]
  rw [own_bs (show gR (oH22 s0 s1 s2 s3 s4) 2 1 2 = some 5 from rfl)]
  rw [own_bs (show gR (oH22 s0 s1 s2 s3 s4) 2 1 2 = some 5 from rfl)]
  rw [own_bs (show rI (oH22 s0 s1 s2 s3 s4) 5 0 ((1 : Int32) - (1 : Int32)) = some (0 : Int32) from rfl)]
  rw [own_bs (show rI (oH22 s0 s1 s2 s3 s4) 1 0 ((1 : Int32) - (1 : Int32)) = some s0 from rfl)]
  rw [own_bs (show gR (oH22 s0 s1 s2 s3 s4) 2 1 1 = some 4 from rfl)]
  rw [own_bs (show lA (oH22 s0 s1 s2 s3 s4) 1 0 = some (2 : Int32) from rfl)]
  rw [own_bs (show rI (oH22 s0 s1 s2 s3 s4) 4 0 (2 : Int32) = some (((0 : Int32) + s0) + s1) from rfl)]
  rw [own_bs (show gR (oH22 s0 s1 s2 s3 s4) 2 1 1 = some 4 from rfl)]
  rw [own_bs (show rI (oH22 s0 s1 s2 s3 s4) 4 0 (1 : Int32) = some ((0 : Int32) + s0) from rfl)]
  rw [own_bs (show wV (oH22 s0 s1 s2 s3 s4) 5 0 (1 : Int32) (.int ((0 : Int32) + (s0 * ((((0 : Int32) + s0) + s1) - ((0 : Int32) + s0))))) = some (oH24 s0 s1 s2 s3 s4) from rfl)]
  try rw [show ((1 : Int32) + (1 : Int32)) = (2 : Int32) from rfl]
  rw [b3_100]
  rw [own_bs (show lA (oH24 s0 s1 s2 s3 s4) 1 0 = some (2 : Int32) from rfl)]
  rw [if_neg (by decide : ¬ ((2 : Int32) < (2 : Int32)))]
  rw [own_bs (show pV (oH24 s0 s1 s2 s3 s4) 2 1 3 (.int (c.toInt32)) = some (oH25 s0 s1 s2 s3 s4 c) from rfl)]
set_option maxRecDepth 20000 in
set_option maxHeartbeats 4000000 in
theorem own_b_2 (i0 i1 i2 i3 i4 t : Int32) : ∃ D', b0_20 [] i0 i1 i2 i3 i4 (2 : Int32) t = some ((1 : Int32), D') := by
  rw [b0_20]
  rw [own_letV (show List.length ([] : Hp) = 0 from rfl)]
  rw [own_bs (show nA ([] : Hp) 0 (5 : Int32) 5 (.int (0 : Int32)) = some oH2 from rfl)]
  obtain ⟨s0, e0, h0⟩ := own_f1 oH2 i0 t
  rw [e0]
  rw [Option.bind_some]
  rw [own_letP1]
  rw [own_letP2]
  rw [own_bs (show wV oH2 0 0 (0 : Int32) (.int s0) = some (oH4 s0) from rfl)]
  obtain ⟨s1, e1, h1⟩ := own_f1 (oH4 s0) i1 t
  rw [e1]
  rw [Option.bind_some]
  rw [own_letP1]
  rw [own_letP2]
  rw [own_bs (show wV (oH4 s0) 0 0 (1 : Int32) (.int s1) = some (oH6 s0 s1) from rfl)]
  obtain ⟨s2, e2, h2⟩ := own_f1 (oH6 s0 s1) i2 t
  rw [e2]
  rw [Option.bind_some]
  rw [own_letP1]
  rw [own_letP2]
  rw [own_bs (show wV (oH6 s0 s1) 0 0 (2 : Int32) (.int s2) = some (oH7 s0 s1 s2) from rfl)]
  obtain ⟨s3, e3, h3⟩ := own_f1 (oH7 s0 s1 s2) i3 t
  rw [e3]
  rw [Option.bind_some]
  rw [own_letP1]
  rw [own_letP2]
  rw [own_bs (show wV (oH7 s0 s1 s2) 0 0 (3 : Int32) (.int s3) = some (oH8 s0 s1 s2 s3) from rfl)]
  obtain ⟨s4, e4, h4⟩ := own_f1 (oH8 s0 s1 s2 s3) i4 t
  rw [e4]
  rw [Option.bind_some]
  rw [own_letP1]
  rw [own_letP2]
  rw [own_bs (show wV (oH8 s0 s1 s2 s3) 0 0 (4 : Int32) (.int s4) = some (oH9 s0 s1 s2 s3 s4) from rfl)]
  rw [f2]
  rw [if_pos (by decide : ((2 : Int32) = (2 : Int32)))]
  rw [own_letV (show List.length (oH9 s0 s1 s2 s3 s4) = 1 from rfl)]
  rw [own_bs (show nA (oH9 s0 s1 s2 s3 s4) 0 (2 : Int32) 2 (.int (0 : Int32)) = some (oH10 s0 s1 s2 s3 s4) from rfl)]
  rw [own_bs (show rI (oH10 s0 s1 s2 s3 s4) 0 0 (0 : Int32) = some s0 from rfl)]
  rw [own_bs (show wV (oH10 s0 s1 s2 s3 s4) 1 0 (0 : Int32) (.int s0) = some (oH11 s0 s1 s2 s3 s4) from rfl)]
  rw [own_bs (show rI (oH11 s0 s1 s2 s3 s4) 0 0 (1 : Int32) = some s1 from rfl)]
  rw [own_bs (show wV (oH11 s0 s1 s2 s3 s4) 1 0 (1 : Int32) (.int s1) = some (oH12 s0 s1 s2 s3 s4) from rfl)]
  rw [Option.bind_some]
  rw [own_letP1]
  rw [own_letP2]
  rw [own_letV (show List.length (oH12 s0 s1 s2 s3 s4) = 2 from rfl)]
  rw [own_letV (show (oH12 s0 s1 s2 s3 s4) ++ ([(1, [.null, .null, .null, .int (0 : Int32)])] : Hp) = (oH13 s0 s1 s2 s3 s4) from rfl)]
  obtain ⟨c, hk⟩ := own_f3_2 s0 s1 s2 s3 s4 h0 h1
  rw [hk]
  rw [Option.bind_some]
  rw [own_bs (show ck (oH25 s0 s1 s2 s3 s4 c) 2 1 = some 1 from rfl)]
  obtain ⟨p2, q2, a2, b2, g2, u2, v2, x2, y2, B2, C2_0, C2_1⟩ := own_st0 (oH25 s0 s1 s2 s3 s4 c) (oH9 s0 s1 s2 s3 s4) 2 3 s0 s1 rfl rfl rfl rfl rfl
  rw [g2]
  rw [show (12 : Nat) = 11 + 1 from rfl, b10_25]
  rw [own_bs (show gR (oH25 s0 s1 s2 s3 s4 c) 2 1 0 = some 3 from rfl)]
  rw [own_bs (show lA (oH25 s0 s1 s2 s3 s4 c) 3 0 = some (2 : Int32) from rfl)]
  rw [if_neg (by decide : ¬ ((2 : Int32) < (2 : Int32)))]
  rw [own_letV (show List.length (oH25 s0 s1 s2 s3 s4 c) = 6 from rfl)]
  rw [own_bs (show nA (oH25 s0 s1 s2 s3 s4 c) 0 (2 : Int32) 2 (.int (0 : Int32)) = some (oH26 s0 s1 s2 s3 s4 c) from rfl)]
  rw [own_bs (show wV (oH26 s0 s1 s2 s3 s4 c) 6 0 (0 : Int32) (.int p2) = some (oH27 s0 s1 s2 s3 s4 p2 c) from rfl)]
  rw [own_bs (show wV (oH27 s0 s1 s2 s3 s4 p2 c) 6 0 (1 : Int32) (.int q2) = some (oH28 s0 s1 s2 s3 s4 p2 q2 c) from rfl)]
  rw [Option.bind_some]
  rw [own_letP1]
  rw [own_letP2]
  rw [own_bs (show lA (oH28 s0 s1 s2 s3 s4 p2 q2 c) 6 0 = some (2 : Int32) from rfl)]
  rw [if_pos (by decide : ((2 : Int32) = (2 : Int32)))]
  rw [own_bs (show rI (oH28 s0 s1 s2 s3 s4 p2 q2 c) 6 0 (0 : Int32) = some p2 from rfl)]
  rw [own_bs (show rI (oH28 s0 s1 s2 s3 s4 p2 q2 c) 6 0 (1 : Int32) = some q2 from rfl)]
  rw [if_neg (own_nlt0 B2.1)]
  rw [if_pos (own_ltk (k := (2 : Int32)) rfl B2.2.1)]
  rw [if_neg (own_nlt0 B2.2.2.1)]
  rw [if_pos (own_ltk (k := (2 : Int32)) rfl B2.2.2.2.1)]
  rw [if_neg (show ¬ p2 = q2 from fun z => B2.2.2.2.2 (congrArg Int32.toInt z))]
  rw [own_f11 (oH28 s0 s1 s2 s3 s4 p2 q2 c) 0 (0 : Int32) (2 : Int32) p2 q2 s0 a2 b2 0 rfl (by decide) rfl x2 y2 C2_0]
  rw [Option.bind_some]
  rw [own_letP1]
  rw [own_letP2]
  rw [if_neg (by decide : ¬ ((1 : Int32) = (0 : Int32)))]
  rw [own_f11 (oH28 s0 s1 s2 s3 s4 p2 q2 c) 0 (1 : Int32) (2 : Int32) p2 q2 s1 a2 b2 1 rfl (by decide) rfl x2 y2 C2_1]
  rw [Option.bind_some]
  rw [own_letP1]
  rw [own_letP2]
  rw [if_neg (by decide : ¬ ((1 : Int32) = (0 : Int32)))]
  rw [f11, if_neg (by decide)]
  rw [Option.bind_some]
  rw [own_letP1]
  rw [own_letP2]
  rw [if_neg (by decide : ¬ ((1 : Int32) = (0 : Int32)))]
  rw [f11, if_neg (by decide)]
  rw [Option.bind_some]
  rw [own_letP1]
  rw [own_letP2]
  rw [if_neg (by decide : ¬ ((1 : Int32) = (0 : Int32)))]
  rw [f11, if_neg (by decide)]
  rw [Option.bind_some]
  rw [own_letP1]
  rw [own_letP2]
  rw [if_neg (by decide : ¬ ((1 : Int32) = (0 : Int32)))]
  exact ⟨_, rfl⟩
set_option maxRecDepth 20000 in
set_option maxHeartbeats 4000000 in
theorem own_f3_3 (s0 s1 s2 s3 s4 : Int32) (h0 : 0 ≤ s0.toInt ∧ s0.toInt ≤ 512) (h1 : 0 ≤ s1.toInt ∧ s1.toInt ≤ 512) (h2 : 0 ≤ s2.toInt ∧ s2.toInt ≤ 512) : ∃ c : Int64, f3 (oH33 s0 s1 s2 s3 s4) 2 1 = some (oH51 s0 s1 s2 s3 s4 c) := by
  obtain ⟨c, hp, hc⟩ := own_pc3 (oH33 s0 s1 s2 s3 s4) 1 s0 s1 s2 rfl h0 h1 h2
  refine ⟨c, ?_⟩
  rw [f3]
  rw [hp]
  rw [Option.bind_some]
  rw [own_letP1]
  rw [own_letP2]
  rw [if_neg (own_big c hc)]
  rw [own_letV (show List.length (oH33 s0 s1 s2 s3 s4) = 3 from rfl)]
  rw [own_bs (show cA' (oH33 s0 s1 s2 s3 s4) 1 0 8 = some (oH34 s0 s1 s2 s3 s4) from rfl)]
  rw [own_bs (show ck (oH34 s0 s1 s2 s3 s4) 3 0 = some 0 from rfl)]
  rw [own_bs (show pV (oH34 s0 s1 s2 s3 s4) 2 1 0 (.ref 3) = some (oH35 s0 s1 s2 s3 s4) from rfl)]
  rw [own_bs (show lA (oH35 s0 s1 s2 s3 s4) 1 0 = some (3 : Int32) from rfl)]
  rw [own_letV (show List.length (oH35 s0 s1 s2 s3 s4) = 4 from rfl)]
  rw [own_bs (show nA (oH35 s0 s1 s2 s3 s4) 0 ((3 : Int32) + (1 : Int32)) 8 (.int (0 : Int32)) = some (oH37 s0 s1 s2 s3 s4) from rfl)]
  rw [own_bs (show pV (oH37 s0 s1 s2 s3 s4) 2 1 1 (.ref 4) = some (oH38 s0 s1 s2 s3 s4) from rfl)]
  rw [b3_55]
  rw [own_bs (show lA (oH38 s0 s1 s2 s3 s4) 1 0 = some (3 : Int32) from rfl)]
  rw [if_pos (by decide : ((0 : Int32) < (3 : Int32)))]
  rw [own_bs (show gR (oH38 s0 s1 s2 s3 s4) 2 1 1 = some 4 from rfl)]
  rw [own_bs (show gR (oH38 s0 s1 s2 s3 s4) 2 1 1 = some 4 from rfl)]
  rw [own_bs (show rI (oH38 s0 s1 s2 s3 s4) 4 0 (0 : Int32) = some (0 : Int32) from rfl)]
  rw [own_bs (show rI (oH38 s0 s1 s2 s3 s4) 1 0 (0 : Int32) = some s0 from rfl)]
  rw [own_bs (show wV (oH38 s0 s1 s2 s3 s4) 4 0 ((0 : Int32) + (1 : Int32)) (.int ((0 : Int32) + s0)) = some (oH40 s0 s1 s2 s3 s4) from rfl)]
  try rw [show ((0 : Int32) + (1 : Int32)) = (1 : Int32) from rfl]
  rw [b3_55]
  rw [own_bs (show lA (oH40 s0 s1 s2 s3 s4) 1 0 = some (3 : Int32) from rfl)]
  rw [if_pos (by decide : ((1 : Int32) < (3 : Int32)))]
  rw [own_bs (show gR (oH40 s0 s1 s2 s3 s4) 2 1 1 = some 4 from rfl)]
  rw [own_bs (show gR (oH40 s0 s1 s2 s3 s4) 2 1 1 = some 4 from rfl)]
  rw [own_bs (show rI (oH40 s0 s1 s2 s3 s4) 4 0 (1 : Int32) = some ((0 : Int32) + s0) from rfl)]
  rw [own_bs (show rI (oH40 s0 s1 s2 s3 s4) 1 0 (1 : Int32) = some s1 from rfl)]
  rw [own_bs (show wV (oH40 s0 s1 s2 s3 s4) 4 0 ((1 : Int32) + (1 : Int32)) (.int (((0 : Int32) + s0) + s1)) = some (oH42 s0 s1 s2 s3 s4) from rfl)]
  try rw [show ((1 : Int32) + (1 : Int32)) = (2 : Int32) from rfl]
  rw [b3_55]
  rw [own_bs (show lA (oH42 s0 s1 s2 s3 s4) 1 0 = some (3 : Int32) from rfl)]
  rw [if_pos (by decide : ((2 : Int32) < (3 : Int32)))]
  rw [own_bs (show gR (oH42 s0 s1 s2 s3 s4) 2 1 1 = some 4 from rfl)]
  rw [own_bs (show gR (oH42 s0 s1 s2 s3 s4) 2 1 1 = some 4 from rfl)]
  rw [own_bs (show rI (oH42 s0 s1 s2 s3 s4) 4 0 (2 : Int32) = some (((0 : Int32) + s0) + s1) from rfl)]
  rw [own_bs (show rI (oH42 s0 s1 s2 s3 s4) 1 0 (2 : Int32) = some s2 from rfl)]
  rw [own_bs (show wV (oH42 s0 s1 s2 s3 s4) 4 0 ((2 : Int32) + (1 : Int32)) (.int ((((0 : Int32) + s0) + s1) + s2)) = some (oH44 s0 s1 s2 s3 s4) from rfl)]
  try rw [show ((2 : Int32) + (1 : Int32)) = (3 : Int32) from rfl]
  rw [b3_55]
  rw [own_bs (show lA (oH44 s0 s1 s2 s3 s4) 1 0 = some (3 : Int32) from rfl)]
  rw [if_neg (by decide : ¬ ((3 : Int32) < (3 : Int32)))]
  rw [own_bs (show lA (oH44 s0 s1 s2 s3 s4) 1 0 = some (3 : Int32) from rfl)]
  rw [own_letV (show List.length (oH44 s0 s1 s2 s3 s4) = 5 from rfl)]
  rw [own_bs (show nA (oH44 s0 s1 s2 s3 s4) 0 (3 : Int32) 8 (.int (0 : Int32)) = some (oH45 s0 s1 s2 s3 s4) from rfl)]
  rw [own_bs (show pV (oH45 s0 s1 s2 s3 s4) 2 1 2 (.ref 5) = some (oH46 s0 s1 s2 s3 s4) from rfl)]
  rw [b3_100]
  rw [own_bs (show lA (oH46 s0 s1 s2 s3 s4) 1 0 = some (3 : Int32) from rfl)]
  rw [if_pos (by decide : ((1 : Int32) < (3 : Int32)))]
  rw [own_bs (show gR (oH46 s0 s1 s2 s3 s4) 2 1 2 = some 5 from rfl)]
  rw [own_bs (show gR (oH46 s0 s1 s2 s3 s4) 2 1 2 = some 5 from rfl)]
  rw [own_bs (show rI (oH46 s0 s1 s2 s3 s4) 5 0 ((1 : Int32) - (1 : Int32)) = some (0 : Int32) from rfl)]
  rw [own_bs (show rI (oH46 s0 s1 s2 s3 s4) 1 0 ((1 : Int32) - (1 : Int32)) = some s0 from rfl)]
  rw [own_bs (show gR (oH46 s0 s1 s2 s3 s4) 2 1 1 = some 4 from rfl)]
  rw [own_bs (show lA (oH46 s0 s1 s2 s3 s4) 1 0 = some (3 : Int32) from rfl)]
  rw [own_bs (show rI (oH46 s0 s1 s2 s3 s4) 4 0 (3 : Int32) = some ((((0 : Int32) + s0) + s1) + s2) from rfl)]
  rw [own_bs (show gR (oH46 s0 s1 s2 s3 s4) 2 1 1 = some 4 from rfl)]
  rw [own_bs (show rI (oH46 s0 s1 s2 s3 s4) 4 0 (1 : Int32) = some ((0 : Int32) + s0) from rfl)]
  rw [own_bs (show wV (oH46 s0 s1 s2 s3 s4) 5 0 (1 : Int32) (.int ((0 : Int32) + (s0 * (((((0 : Int32) + s0) + s1) + s2) - ((0 : Int32) + s0))))) = some (oH48 s0 s1 s2 s3 s4) from rfl)]
  try rw [show ((1 : Int32) + (1 : Int32)) = (2 : Int32) from rfl]
  rw [b3_100]
  rw [own_bs (show lA (oH48 s0 s1 s2 s3 s4) 1 0 = some (3 : Int32) from rfl)]
  rw [if_pos (by decide : ((2 : Int32) < (3 : Int32)))]
  rw [own_bs (show gR (oH48 s0 s1 s2 s3 s4) 2 1 2 = some 5 from rfl)]
  rw [own_bs (show gR (oH48 s0 s1 s2 s3 s4) 2 1 2 = some 5 from rfl)]
  rw [own_bs (show rI (oH48 s0 s1 s2 s3 s4) 5 0 ((2 : Int32) - (1 : Int32)) = some ((0 : Int32) + (s0 * (((((0 : Int32) + s0) + s1) + s2) - ((0 : Int32) + s0)))) from rfl)]
  rw [own_bs (show rI (oH48 s0 s1 s2 s3 s4) 1 0 ((2 : Int32) - (1 : Int32)) = some s1 from rfl)]
  rw [own_bs (show gR (oH48 s0 s1 s2 s3 s4) 2 1 1 = some 4 from rfl)]
  rw [own_bs (show lA (oH48 s0 s1 s2 s3 s4) 1 0 = some (3 : Int32) from rfl)]
  rw [own_bs (show rI (oH48 s0 s1 s2 s3 s4) 4 0 (3 : Int32) = some ((((0 : Int32) + s0) + s1) + s2) from rfl)]
  rw [own_bs (show gR (oH48 s0 s1 s2 s3 s4) 2 1 1 = some 4 from rfl)]
  rw [own_bs (show rI (oH48 s0 s1 s2 s3 s4) 4 0 (2 : Int32) = some (((0 : Int32) + s0) + s1) from rfl)]
  rw [own_bs (show wV (oH48 s0 s1 s2 s3 s4) 5 0 (2 : Int32) (.int (((0 : Int32) + (s0 * (((((0 : Int32) + s0) + s1) + s2) - ((0 : Int32) + s0)))) + (s1 * (((((0 : Int32) + s0) + s1) + s2) - (((0 : Int32) + s0) + s1))))) = some (oH50 s0 s1 s2 s3 s4) from rfl)]
  try rw [show ((2 : Int32) + (1 : Int32)) = (3 : Int32) from rfl]
  rw [b3_100]
  rw [own_bs (show lA (oH50 s0 s1 s2 s3 s4) 1 0 = some (3 : Int32) from rfl)]
  rw [if_neg (by decide : ¬ ((3 : Int32) < (3 : Int32)))]
  rw [own_bs (show pV (oH50 s0 s1 s2 s3 s4) 2 1 3 (.int (c.toInt32)) = some (oH51 s0 s1 s2 s3 s4 c) from rfl)]
set_option maxRecDepth 20000 in
set_option maxHeartbeats 4000000 in
theorem own_b_3 (i0 i1 i2 i3 i4 t : Int32) : ∃ D', b0_20 [] i0 i1 i2 i3 i4 (3 : Int32) t = some ((1 : Int32), D') := by
  rw [b0_20]
  rw [own_letV (show List.length ([] : Hp) = 0 from rfl)]
  rw [own_bs (show nA ([] : Hp) 0 (5 : Int32) 5 (.int (0 : Int32)) = some oH2 from rfl)]
  obtain ⟨s0, e0, h0⟩ := own_f1 oH2 i0 t
  rw [e0]
  rw [Option.bind_some]
  rw [own_letP1]
  rw [own_letP2]
  rw [own_bs (show wV oH2 0 0 (0 : Int32) (.int s0) = some (oH4 s0) from rfl)]
  obtain ⟨s1, e1, h1⟩ := own_f1 (oH4 s0) i1 t
  rw [e1]
  rw [Option.bind_some]
  rw [own_letP1]
  rw [own_letP2]
  rw [own_bs (show wV (oH4 s0) 0 0 (1 : Int32) (.int s1) = some (oH6 s0 s1) from rfl)]
  obtain ⟨s2, e2, h2⟩ := own_f1 (oH6 s0 s1) i2 t
  rw [e2]
  rw [Option.bind_some]
  rw [own_letP1]
  rw [own_letP2]
  rw [own_bs (show wV (oH6 s0 s1) 0 0 (2 : Int32) (.int s2) = some (oH7 s0 s1 s2) from rfl)]
  obtain ⟨s3, e3, h3⟩ := own_f1 (oH7 s0 s1 s2) i3 t
  rw [e3]
  rw [Option.bind_some]
  rw [own_letP1]
  rw [own_letP2]
  rw [own_bs (show wV (oH7 s0 s1 s2) 0 0 (3 : Int32) (.int s3) = some (oH8 s0 s1 s2 s3) from rfl)]
  obtain ⟨s4, e4, h4⟩ := own_f1 (oH8 s0 s1 s2 s3) i4 t
  rw [e4]
  rw [Option.bind_some]
  rw [own_letP1]
  rw [own_letP2]
  rw [own_bs (show wV (oH8 s0 s1 s2 s3) 0 0 (4 : Int32) (.int s4) = some (oH9 s0 s1 s2 s3 s4) from rfl)]
  rw [f2]
  rw [if_neg (by decide : ¬ ((3 : Int32) = (2 : Int32)))]
  rw [if_pos (by decide : ((3 : Int32) = (3 : Int32)))]
  rw [own_letV (show List.length (oH9 s0 s1 s2 s3 s4) = 1 from rfl)]
  rw [own_bs (show nA (oH9 s0 s1 s2 s3 s4) 0 (3 : Int32) 3 (.int (0 : Int32)) = some (oH29 s0 s1 s2 s3 s4) from rfl)]
  rw [own_bs (show rI (oH29 s0 s1 s2 s3 s4) 0 0 (0 : Int32) = some s0 from rfl)]
  rw [own_bs (show wV (oH29 s0 s1 s2 s3 s4) 1 0 (0 : Int32) (.int s0) = some (oH30 s0 s1 s2 s3 s4) from rfl)]
  rw [own_bs (show rI (oH30 s0 s1 s2 s3 s4) 0 0 (1 : Int32) = some s1 from rfl)]
  rw [own_bs (show wV (oH30 s0 s1 s2 s3 s4) 1 0 (1 : Int32) (.int s1) = some (oH31 s0 s1 s2 s3 s4) from rfl)]
  rw [own_bs (show rI (oH31 s0 s1 s2 s3 s4) 0 0 (2 : Int32) = some s2 from rfl)]
  rw [own_bs (show wV (oH31 s0 s1 s2 s3 s4) 1 0 (2 : Int32) (.int s2) = some (oH32 s0 s1 s2 s3 s4) from rfl)]
  rw [Option.bind_some]
  rw [own_letP1]
  rw [own_letP2]
  rw [own_letV (show List.length (oH32 s0 s1 s2 s3 s4) = 2 from rfl)]
  rw [own_letV (show (oH32 s0 s1 s2 s3 s4) ++ ([(1, [.null, .null, .null, .int (0 : Int32)])] : Hp) = (oH33 s0 s1 s2 s3 s4) from rfl)]
  obtain ⟨c, hk⟩ := own_f3_3 s0 s1 s2 s3 s4 h0 h1 h2
  rw [hk]
  rw [Option.bind_some]
  rw [own_bs (show ck (oH51 s0 s1 s2 s3 s4 c) 2 1 = some 1 from rfl)]
  obtain ⟨p2, q2, a2, b2, g2, u2, v2, x2, y2, B2, C2_0, C2_1⟩ := own_st0 (oH51 s0 s1 s2 s3 s4 c) (oH9 s0 s1 s2 s3 s4) 2 3 s0 s1 rfl rfl rfl rfl rfl
  rw [g2]
  obtain ⟨p3, q3, a3, b3, g3, u3, v3, x3, y3, S3⟩ := own_lp 11 (oH51 s0 s1 s2 s3 s4 c) (oH9 s0 s1 s2 s3 s4) 2 3 p2 q2 (2 : Int32) (3 : Int32) s2 a2 b2 2 rfl rfl rfl (by decide) rfl u2 v2 rfl x2 y2
  rw [show (12 : Nat) = 11 + 1 from rfl, g3, show (2 : Int32) + (1 : Int32) = 3 from rfl]
  have B3 : oB p3.toInt q3.toInt 3 := own_bn (by decide) B2 S3
  have C3_0 := own_cs (by decide) C2_0 S3
  have C3_1 := own_cs (by decide) C2_1 S3
  have C3_2 := own_cn B2.2.1 B2.2.2.2.1 S3
  rw [show (11 : Nat) = 10 + 1 from rfl, b10_25]
  rw [own_bs (show gR (oH51 s0 s1 s2 s3 s4 c) 2 1 0 = some 3 from rfl)]
  rw [own_bs (show lA (oH51 s0 s1 s2 s3 s4 c) 3 0 = some (3 : Int32) from rfl)]
  rw [if_neg (by decide : ¬ ((3 : Int32) < (3 : Int32)))]
  rw [own_letV (show List.length (oH51 s0 s1 s2 s3 s4 c) = 6 from rfl)]
  rw [own_bs (show nA (oH51 s0 s1 s2 s3 s4 c) 0 (2 : Int32) 2 (.int (0 : Int32)) = some (oH52 s0 s1 s2 s3 s4 c) from rfl)]
  rw [own_bs (show wV (oH52 s0 s1 s2 s3 s4 c) 6 0 (0 : Int32) (.int p3) = some (oH53 s0 s1 s2 s3 s4 p3 c) from rfl)]
  rw [own_bs (show wV (oH53 s0 s1 s2 s3 s4 p3 c) 6 0 (1 : Int32) (.int q3) = some (oH54 s0 s1 s2 s3 s4 p3 q3 c) from rfl)]
  rw [Option.bind_some]
  rw [own_letP1]
  rw [own_letP2]
  rw [own_bs (show lA (oH54 s0 s1 s2 s3 s4 p3 q3 c) 6 0 = some (2 : Int32) from rfl)]
  rw [if_pos (by decide : ((2 : Int32) = (2 : Int32)))]
  rw [own_bs (show rI (oH54 s0 s1 s2 s3 s4 p3 q3 c) 6 0 (0 : Int32) = some p3 from rfl)]
  rw [own_bs (show rI (oH54 s0 s1 s2 s3 s4 p3 q3 c) 6 0 (1 : Int32) = some q3 from rfl)]
  rw [if_neg (own_nlt0 B3.1)]
  rw [if_pos (own_ltk (k := (3 : Int32)) rfl B3.2.1)]
  rw [if_neg (own_nlt0 B3.2.2.1)]
  rw [if_pos (own_ltk (k := (3 : Int32)) rfl B3.2.2.2.1)]
  rw [if_neg (show ¬ p3 = q3 from fun z => B3.2.2.2.2 (congrArg Int32.toInt z))]
  rw [own_f11 (oH54 s0 s1 s2 s3 s4 p3 q3 c) 0 (0 : Int32) (3 : Int32) p3 q3 s0 a3 b3 0 rfl (by decide) rfl x3 y3 C3_0]
  rw [Option.bind_some]
  rw [own_letP1]
  rw [own_letP2]
  rw [if_neg (by decide : ¬ ((1 : Int32) = (0 : Int32)))]
  rw [own_f11 (oH54 s0 s1 s2 s3 s4 p3 q3 c) 0 (1 : Int32) (3 : Int32) p3 q3 s1 a3 b3 1 rfl (by decide) rfl x3 y3 C3_1]
  rw [Option.bind_some]
  rw [own_letP1]
  rw [own_letP2]
  rw [if_neg (by decide : ¬ ((1 : Int32) = (0 : Int32)))]
  rw [own_f11 (oH54 s0 s1 s2 s3 s4 p3 q3 c) 0 (2 : Int32) (3 : Int32) p3 q3 s2 a3 b3 2 rfl (by decide) rfl x3 y3 C3_2]
  rw [Option.bind_some]
  rw [own_letP1]
  rw [own_letP2]
  rw [if_neg (by decide : ¬ ((1 : Int32) = (0 : Int32)))]
  rw [f11, if_neg (by decide)]
  rw [Option.bind_some]
  rw [own_letP1]
  rw [own_letP2]
  rw [if_neg (by decide : ¬ ((1 : Int32) = (0 : Int32)))]
  rw [f11, if_neg (by decide)]
  rw [Option.bind_some]
  rw [own_letP1]
  rw [own_letP2]
  rw [if_neg (by decide : ¬ ((1 : Int32) = (0 : Int32)))]
  exact ⟨_, rfl⟩
set_option maxRecDepth 20000 in
set_option maxHeartbeats 4000000 in
theorem own_f3_4 (s0 s1 s2 s3 s4 : Int32) (h0 : 0 ≤ s0.toInt ∧ s0.toInt ≤ 512) (h1 : 0 ≤ s1.toInt ∧ s1.toInt ≤ 512) (h2 : 0 ≤ s2.toInt ∧ s2.toInt ≤ 512) (h3 : 0 ≤ s3.toInt ∧ s3.toInt ≤ 512) : ∃ c : Int64, f3 (oH60 s0 s1 s2 s3 s4) 2 1 = some (oH81 s0 s1 s2 s3 s4 c) := by
  obtain ⟨c, hp, hc⟩ := own_pc4 (oH60 s0 s1 s2 s3 s4) 1 s0 s1 s2 s3 rfl h0 h1 h2 h3
  refine ⟨c, ?_⟩
  rw [f3]
  rw [hp]
  rw [Option.bind_some]
  rw [own_letP1]
  rw [own_letP2]
  rw [if_neg (own_big c hc)]
  rw [own_letV (show List.length (oH60 s0 s1 s2 s3 s4) = 3 from rfl)]
  rw [own_bs (show cA' (oH60 s0 s1 s2 s3 s4) 1 0 8 = some (oH61 s0 s1 s2 s3 s4) from rfl)]
  rw [own_bs (show ck (oH61 s0 s1 s2 s3 s4) 3 0 = some 0 from rfl)]
  rw [own_bs (show pV (oH61 s0 s1 s2 s3 s4) 2 1 0 (.ref 3) = some (oH62 s0 s1 s2 s3 s4) from rfl)]
  rw [own_bs (show lA (oH62 s0 s1 s2 s3 s4) 1 0 = some (4 : Int32) from rfl)]
  rw [own_letV (show List.length (oH62 s0 s1 s2 s3 s4) = 4 from rfl)]
  rw [own_bs (show nA (oH62 s0 s1 s2 s3 s4) 0 ((4 : Int32) + (1 : Int32)) 8 (.int (0 : Int32)) = some (oH63 s0 s1 s2 s3 s4) from rfl)]
  rw [own_bs (show pV (oH63 s0 s1 s2 s3 s4) 2 1 1 (.ref 4) = some (oH64 s0 s1 s2 s3 s4) from rfl)]
  rw [b3_55]
  rw [own_bs (show lA (oH64 s0 s1 s2 s3 s4) 1 0 = some (4 : Int32) from rfl)]
  rw [if_pos (by decide : ((0 : Int32) < (4 : Int32)))]
  rw [own_bs (show gR (oH64 s0 s1 s2 s3 s4) 2 1 1 = some 4 from rfl)]
  rw [own_bs (show gR (oH64 s0 s1 s2 s3 s4) 2 1 1 = some 4 from rfl)]
  rw [own_bs (show rI (oH64 s0 s1 s2 s3 s4) 4 0 (0 : Int32) = some (0 : Int32) from rfl)]
  rw [own_bs (show rI (oH64 s0 s1 s2 s3 s4) 1 0 (0 : Int32) = some s0 from rfl)]
  rw [own_bs (show wV (oH64 s0 s1 s2 s3 s4) 4 0 ((0 : Int32) + (1 : Int32)) (.int ((0 : Int32) + s0)) = some (oH66 s0 s1 s2 s3 s4) from rfl)]
  try rw [show ((0 : Int32) + (1 : Int32)) = (1 : Int32) from rfl]
  rw [b3_55]
  rw [own_bs (show lA (oH66 s0 s1 s2 s3 s4) 1 0 = some (4 : Int32) from rfl)]
  rw [if_pos (by decide : ((1 : Int32) < (4 : Int32)))]
  rw [own_bs (show gR (oH66 s0 s1 s2 s3 s4) 2 1 1 = some 4 from rfl)]
  rw [own_bs (show gR (oH66 s0 s1 s2 s3 s4) 2 1 1 = some 4 from rfl)]
  rw [own_bs (show rI (oH66 s0 s1 s2 s3 s4) 4 0 (1 : Int32) = some ((0 : Int32) + s0) from rfl)]
  rw [own_bs (show rI (oH66 s0 s1 s2 s3 s4) 1 0 (1 : Int32) = some s1 from rfl)]
  rw [own_bs (show wV (oH66 s0 s1 s2 s3 s4) 4 0 ((1 : Int32) + (1 : Int32)) (.int (((0 : Int32) + s0) + s1)) = some (oH68 s0 s1 s2 s3 s4) from rfl)]
  try rw [show ((1 : Int32) + (1 : Int32)) = (2 : Int32) from rfl]
  rw [b3_55]
  rw [own_bs (show lA (oH68 s0 s1 s2 s3 s4) 1 0 = some (4 : Int32) from rfl)]
  rw [if_pos (by decide : ((2 : Int32) < (4 : Int32)))]
  rw [own_bs (show gR (oH68 s0 s1 s2 s3 s4) 2 1 1 = some 4 from rfl)]
  rw [own_bs (show gR (oH68 s0 s1 s2 s3 s4) 2 1 1 = some 4 from rfl)]
  rw [own_bs (show rI (oH68 s0 s1 s2 s3 s4) 4 0 (2 : Int32) = some (((0 : Int32) + s0) + s1) from rfl)]
  rw [own_bs (show rI (oH68 s0 s1 s2 s3 s4) 1 0 (2 : Int32) = some s2 from rfl)]
  rw [own_bs (show wV (oH68 s0 s1 s2 s3 s4) 4 0 ((2 : Int32) + (1 : Int32)) (.int ((((0 : Int32) + s0) + s1) + s2)) = some (oH70 s0 s1 s2 s3 s4) from rfl)]
  try rw [show ((2 : Int32) + (1 : Int32)) = (3 : Int32) from rfl]
  rw [b3_55]
  rw [own_bs (show lA (oH70 s0 s1 s2 s3 s4) 1 0 = some (4 : Int32) from rfl)]
  rw [if_pos (by decide : ((3 : Int32) < (4 : Int32)))]
  rw [own_bs (show gR (oH70 s0 s1 s2 s3 s4) 2 1 1 = some 4 from rfl)]
  rw [own_bs (show gR (oH70 s0 s1 s2 s3 s4) 2 1 1 = some 4 from rfl)]
  rw [own_bs (show rI (oH70 s0 s1 s2 s3 s4) 4 0 (3 : Int32) = some ((((0 : Int32) + s0) + s1) + s2) from rfl)]
  rw [own_bs (show rI (oH70 s0 s1 s2 s3 s4) 1 0 (3 : Int32) = some s3 from rfl)]
  rw [own_bs (show wV (oH70 s0 s1 s2 s3 s4) 4 0 ((3 : Int32) + (1 : Int32)) (.int (((((0 : Int32) + s0) + s1) + s2) + s3)) = some (oH72 s0 s1 s2 s3 s4) from rfl)]
  try rw [show ((3 : Int32) + (1 : Int32)) = (4 : Int32) from rfl]
  rw [b3_55]
  rw [own_bs (show lA (oH72 s0 s1 s2 s3 s4) 1 0 = some (4 : Int32) from rfl)]
  rw [if_neg (by decide : ¬ ((4 : Int32) < (4 : Int32)))]
  rw [own_bs (show lA (oH72 s0 s1 s2 s3 s4) 1 0 = some (4 : Int32) from rfl)]
  rw [own_letV (show List.length (oH72 s0 s1 s2 s3 s4) = 5 from rfl)]
  rw [own_bs (show nA (oH72 s0 s1 s2 s3 s4) 0 (4 : Int32) 8 (.int (0 : Int32)) = some (oH73 s0 s1 s2 s3 s4) from rfl)]
  rw [own_bs (show pV (oH73 s0 s1 s2 s3 s4) 2 1 2 (.ref 5) = some (oH74 s0 s1 s2 s3 s4) from rfl)]
  rw [b3_100]
  rw [own_bs (show lA (oH74 s0 s1 s2 s3 s4) 1 0 = some (4 : Int32) from rfl)]
  rw [if_pos (by decide : ((1 : Int32) < (4 : Int32)))]
  rw [own_bs (show gR (oH74 s0 s1 s2 s3 s4) 2 1 2 = some 5 from rfl)]
  rw [own_bs (show gR (oH74 s0 s1 s2 s3 s4) 2 1 2 = some 5 from rfl)]
  rw [own_bs (show rI (oH74 s0 s1 s2 s3 s4) 5 0 ((1 : Int32) - (1 : Int32)) = some (0 : Int32) from rfl)]
  rw [own_bs (show rI (oH74 s0 s1 s2 s3 s4) 1 0 ((1 : Int32) - (1 : Int32)) = some s0 from rfl)]
  rw [own_bs (show gR (oH74 s0 s1 s2 s3 s4) 2 1 1 = some 4 from rfl)]
  rw [own_bs (show lA (oH74 s0 s1 s2 s3 s4) 1 0 = some (4 : Int32) from rfl)]
  rw [own_bs (show rI (oH74 s0 s1 s2 s3 s4) 4 0 (4 : Int32) = some (((((0 : Int32) + s0) + s1) + s2) + s3) from rfl)]
  rw [own_bs (show gR (oH74 s0 s1 s2 s3 s4) 2 1 1 = some 4 from rfl)]
  rw [own_bs (show rI (oH74 s0 s1 s2 s3 s4) 4 0 (1 : Int32) = some ((0 : Int32) + s0) from rfl)]
  rw [own_bs (show wV (oH74 s0 s1 s2 s3 s4) 5 0 (1 : Int32) (.int ((0 : Int32) + (s0 * ((((((0 : Int32) + s0) + s1) + s2) + s3) - ((0 : Int32) + s0))))) = some (oH76 s0 s1 s2 s3 s4) from rfl)]
  try rw [show ((1 : Int32) + (1 : Int32)) = (2 : Int32) from rfl]
  rw [b3_100]
  rw [own_bs (show lA (oH76 s0 s1 s2 s3 s4) 1 0 = some (4 : Int32) from rfl)]
  rw [if_pos (by decide : ((2 : Int32) < (4 : Int32)))]
  rw [own_bs (show gR (oH76 s0 s1 s2 s3 s4) 2 1 2 = some 5 from rfl)]
  rw [own_bs (show gR (oH76 s0 s1 s2 s3 s4) 2 1 2 = some 5 from rfl)]
  rw [own_bs (show rI (oH76 s0 s1 s2 s3 s4) 5 0 ((2 : Int32) - (1 : Int32)) = some ((0 : Int32) + (s0 * ((((((0 : Int32) + s0) + s1) + s2) + s3) - ((0 : Int32) + s0)))) from rfl)]
  rw [own_bs (show rI (oH76 s0 s1 s2 s3 s4) 1 0 ((2 : Int32) - (1 : Int32)) = some s1 from rfl)]
  rw [own_bs (show gR (oH76 s0 s1 s2 s3 s4) 2 1 1 = some 4 from rfl)]
  rw [own_bs (show lA (oH76 s0 s1 s2 s3 s4) 1 0 = some (4 : Int32) from rfl)]
  rw [own_bs (show rI (oH76 s0 s1 s2 s3 s4) 4 0 (4 : Int32) = some (((((0 : Int32) + s0) + s1) + s2) + s3) from rfl)]
  rw [own_bs (show gR (oH76 s0 s1 s2 s3 s4) 2 1 1 = some 4 from rfl)]
  rw [own_bs (show rI (oH76 s0 s1 s2 s3 s4) 4 0 (2 : Int32) = some (((0 : Int32) + s0) + s1) from rfl)]
  rw [own_bs (show wV (oH76 s0 s1 s2 s3 s4) 5 0 (2 : Int32) (.int (((0 : Int32) + (s0 * ((((((0 : Int32) + s0) + s1) + s2) + s3) - ((0 : Int32) + s0)))) + (s1 * ((((((0 : Int32) + s0) + s1) + s2) + s3) - (((0 : Int32) + s0) + s1))))) = some (oH78 s0 s1 s2 s3 s4) from rfl)]
  try rw [show ((2 : Int32) + (1 : Int32)) = (3 : Int32) from rfl]
  rw [b3_100]
  rw [own_bs (show lA (oH78 s0 s1 s2 s3 s4) 1 0 = some (4 : Int32) from rfl)]
  rw [if_pos (by decide : ((3 : Int32) < (4 : Int32)))]
  rw [own_bs (show gR (oH78 s0 s1 s2 s3 s4) 2 1 2 = some 5 from rfl)]
  rw [own_bs (show gR (oH78 s0 s1 s2 s3 s4) 2 1 2 = some 5 from rfl)]
  rw [own_bs (show rI (oH78 s0 s1 s2 s3 s4) 5 0 ((3 : Int32) - (1 : Int32)) = some (((0 : Int32) + (s0 * ((((((0 : Int32) + s0) + s1) + s2) + s3) - ((0 : Int32) + s0)))) + (s1 * ((((((0 : Int32) + s0) + s1) + s2) + s3) - (((0 : Int32) + s0) + s1)))) from rfl)]
  rw [own_bs (show rI (oH78 s0 s1 s2 s3 s4) 1 0 ((3 : Int32) - (1 : Int32)) = some s2 from rfl)]
  rw [own_bs (show gR (oH78 s0 s1 s2 s3 s4) 2 1 1 = some 4 from rfl)]
  rw [own_bs (show lA (oH78 s0 s1 s2 s3 s4) 1 0 = some (4 : Int32) from rfl)]
  rw [own_bs (show rI (oH78 s0 s1 s2 s3 s4) 4 0 (4 : Int32) = some (((((0 : Int32) + s0) + s1) + s2) + s3) from rfl)]
  rw [own_bs (show gR (oH78 s0 s1 s2 s3 s4) 2 1 1 = some 4 from rfl)]
  rw [own_bs (show rI (oH78 s0 s1 s2 s3 s4) 4 0 (3 : Int32) = some ((((0 : Int32) + s0) + s1) + s2) from rfl)]
  rw [own_bs (show wV (oH78 s0 s1 s2 s3 s4) 5 0 (3 : Int32) (.int ((((0 : Int32) + (s0 * ((((((0 : Int32) + s0) + s1) + s2) + s3) - ((0 : Int32) + s0)))) + (s1 * ((((((0 : Int32) + s0) + s1) + s2) + s3) - (((0 : Int32) + s0) + s1)))) + (s2 * ((((((0 : Int32) + s0) + s1) + s2) + s3) - ((((0 : Int32) + s0) + s1) + s2))))) = some (oH80 s0 s1 s2 s3 s4) from rfl)]
  try rw [show ((3 : Int32) + (1 : Int32)) = (4 : Int32) from rfl]
  rw [b3_100]
  rw [own_bs (show lA (oH80 s0 s1 s2 s3 s4) 1 0 = some (4 : Int32) from rfl)]
  rw [if_neg (by decide : ¬ ((4 : Int32) < (4 : Int32)))]
  rw [own_bs (show pV (oH80 s0 s1 s2 s3 s4) 2 1 3 (.int (c.toInt32)) = some (oH81 s0 s1 s2 s3 s4 c) from rfl)]
set_option maxRecDepth 20000 in
set_option maxHeartbeats 4000000 in
theorem own_b_4 (i0 i1 i2 i3 i4 t : Int32) : ∃ D', b0_20 [] i0 i1 i2 i3 i4 (4 : Int32) t = some ((1 : Int32), D') := by
  rw [b0_20]
  rw [own_letV (show List.length ([] : Hp) = 0 from rfl)]
  rw [own_bs (show nA ([] : Hp) 0 (5 : Int32) 5 (.int (0 : Int32)) = some oH2 from rfl)]
  obtain ⟨s0, e0, h0⟩ := own_f1 oH2 i0 t
  rw [e0]
  rw [Option.bind_some]
  rw [own_letP1]
  rw [own_letP2]
  rw [own_bs (show wV oH2 0 0 (0 : Int32) (.int s0) = some (oH4 s0) from rfl)]
  obtain ⟨s1, e1, h1⟩ := own_f1 (oH4 s0) i1 t
  rw [e1]
  rw [Option.bind_some]
  rw [own_letP1]
  rw [own_letP2]
  rw [own_bs (show wV (oH4 s0) 0 0 (1 : Int32) (.int s1) = some (oH6 s0 s1) from rfl)]
  obtain ⟨s2, e2, h2⟩ := own_f1 (oH6 s0 s1) i2 t
  rw [e2]
  rw [Option.bind_some]
  rw [own_letP1]
  rw [own_letP2]
  rw [own_bs (show wV (oH6 s0 s1) 0 0 (2 : Int32) (.int s2) = some (oH7 s0 s1 s2) from rfl)]
  obtain ⟨s3, e3, h3⟩ := own_f1 (oH7 s0 s1 s2) i3 t
  rw [e3]
  rw [Option.bind_some]
  rw [own_letP1]
  rw [own_letP2]
  rw [own_bs (show wV (oH7 s0 s1 s2) 0 0 (3 : Int32) (.int s3) = some (oH8 s0 s1 s2 s3) from rfl)]
  obtain ⟨s4, e4, h4⟩ := own_f1 (oH8 s0 s1 s2 s3) i4 t
  rw [e4]
  rw [Option.bind_some]
  rw [own_letP1]
  rw [own_letP2]
  rw [own_bs (show wV (oH8 s0 s1 s2 s3) 0 0 (4 : Int32) (.int s4) = some (oH9 s0 s1 s2 s3 s4) from rfl)]
  rw [f2]
  rw [if_neg (by decide : ¬ ((4 : Int32) = (2 : Int32)))]
  rw [if_neg (by decide : ¬ ((4 : Int32) = (3 : Int32)))]
  rw [if_pos (by decide : ((4 : Int32) = (4 : Int32)))]
  rw [own_letV (show List.length (oH9 s0 s1 s2 s3 s4) = 1 from rfl)]
  rw [own_bs (show nA (oH9 s0 s1 s2 s3 s4) 0 (4 : Int32) 4 (.int (0 : Int32)) = some (oH55 s0 s1 s2 s3 s4) from rfl)]
  rw [own_bs (show rI (oH55 s0 s1 s2 s3 s4) 0 0 (0 : Int32) = some s0 from rfl)]
  rw [own_bs (show wV (oH55 s0 s1 s2 s3 s4) 1 0 (0 : Int32) (.int s0) = some (oH56 s0 s1 s2 s3 s4) from rfl)]
  rw [own_bs (show rI (oH56 s0 s1 s2 s3 s4) 0 0 (1 : Int32) = some s1 from rfl)]
  rw [own_bs (show wV (oH56 s0 s1 s2 s3 s4) 1 0 (1 : Int32) (.int s1) = some (oH57 s0 s1 s2 s3 s4) from rfl)]
  rw [own_bs (show rI (oH57 s0 s1 s2 s3 s4) 0 0 (2 : Int32) = some s2 from rfl)]
  rw [own_bs (show wV (oH57 s0 s1 s2 s3 s4) 1 0 (2 : Int32) (.int s2) = some (oH58 s0 s1 s2 s3 s4) from rfl)]
  rw [own_bs (show rI (oH58 s0 s1 s2 s3 s4) 0 0 (3 : Int32) = some s3 from rfl)]
  rw [own_bs (show wV (oH58 s0 s1 s2 s3 s4) 1 0 (3 : Int32) (.int s3) = some (oH59 s0 s1 s2 s3 s4) from rfl)]
  rw [Option.bind_some]
  rw [own_letP1]
  rw [own_letP2]
  rw [own_letV (show List.length (oH59 s0 s1 s2 s3 s4) = 2 from rfl)]
  rw [own_letV (show (oH59 s0 s1 s2 s3 s4) ++ ([(1, [.null, .null, .null, .int (0 : Int32)])] : Hp) = (oH60 s0 s1 s2 s3 s4) from rfl)]
  obtain ⟨c, hk⟩ := own_f3_4 s0 s1 s2 s3 s4 h0 h1 h2 h3
  rw [hk]
  rw [Option.bind_some]
  rw [own_bs (show ck (oH81 s0 s1 s2 s3 s4 c) 2 1 = some 1 from rfl)]
  obtain ⟨p2, q2, a2, b2, g2, u2, v2, x2, y2, B2, C2_0, C2_1⟩ := own_st0 (oH81 s0 s1 s2 s3 s4 c) (oH9 s0 s1 s2 s3 s4) 2 3 s0 s1 rfl rfl rfl rfl rfl
  rw [g2]
  obtain ⟨p3, q3, a3, b3, g3, u3, v3, x3, y3, S3⟩ := own_lp 11 (oH81 s0 s1 s2 s3 s4 c) (oH9 s0 s1 s2 s3 s4) 2 3 p2 q2 (2 : Int32) (4 : Int32) s2 a2 b2 2 rfl rfl rfl (by decide) rfl u2 v2 rfl x2 y2
  rw [show (12 : Nat) = 11 + 1 from rfl, g3, show (2 : Int32) + (1 : Int32) = 3 from rfl]
  have B3 : oB p3.toInt q3.toInt 3 := own_bn (by decide) B2 S3
  have C3_0 := own_cs (by decide) C2_0 S3
  have C3_1 := own_cs (by decide) C2_1 S3
  have C3_2 := own_cn B2.2.1 B2.2.2.2.1 S3
  obtain ⟨p4, q4, a4, b4, g4, u4, v4, x4, y4, S4⟩ := own_lp 10 (oH81 s0 s1 s2 s3 s4 c) (oH9 s0 s1 s2 s3 s4) 2 3 p3 q3 (3 : Int32) (4 : Int32) s3 a3 b3 3 rfl rfl rfl (by decide) rfl u3 v3 rfl x3 y3
  rw [show (11 : Nat) = 10 + 1 from rfl, g4, show (3 : Int32) + (1 : Int32) = 4 from rfl]
  have B4 : oB p4.toInt q4.toInt 4 := own_bn (by decide) B3 S4
  have C4_0 := own_cs (by decide) C3_0 S4
  have C4_1 := own_cs (by decide) C3_1 S4
  have C4_2 := own_cs (by decide) C3_2 S4
  have C4_3 := own_cn B3.2.1 B3.2.2.2.1 S4
  rw [show (10 : Nat) = 9 + 1 from rfl, b10_25]
  rw [own_bs (show gR (oH81 s0 s1 s2 s3 s4 c) 2 1 0 = some 3 from rfl)]
  rw [own_bs (show lA (oH81 s0 s1 s2 s3 s4 c) 3 0 = some (4 : Int32) from rfl)]
  rw [if_neg (by decide : ¬ ((4 : Int32) < (4 : Int32)))]
  rw [own_letV (show List.length (oH81 s0 s1 s2 s3 s4 c) = 6 from rfl)]
  rw [own_bs (show nA (oH81 s0 s1 s2 s3 s4 c) 0 (2 : Int32) 2 (.int (0 : Int32)) = some (oH82 s0 s1 s2 s3 s4 c) from rfl)]
  rw [own_bs (show wV (oH82 s0 s1 s2 s3 s4 c) 6 0 (0 : Int32) (.int p4) = some (oH83 s0 s1 s2 s3 s4 p4 c) from rfl)]
  rw [own_bs (show wV (oH83 s0 s1 s2 s3 s4 p4 c) 6 0 (1 : Int32) (.int q4) = some (oH84 s0 s1 s2 s3 s4 p4 q4 c) from rfl)]
  rw [Option.bind_some]
  rw [own_letP1]
  rw [own_letP2]
  rw [own_bs (show lA (oH84 s0 s1 s2 s3 s4 p4 q4 c) 6 0 = some (2 : Int32) from rfl)]
  rw [if_pos (by decide : ((2 : Int32) = (2 : Int32)))]
  rw [own_bs (show rI (oH84 s0 s1 s2 s3 s4 p4 q4 c) 6 0 (0 : Int32) = some p4 from rfl)]
  rw [own_bs (show rI (oH84 s0 s1 s2 s3 s4 p4 q4 c) 6 0 (1 : Int32) = some q4 from rfl)]
  rw [if_neg (own_nlt0 B4.1)]
  rw [if_pos (own_ltk (k := (4 : Int32)) rfl B4.2.1)]
  rw [if_neg (own_nlt0 B4.2.2.1)]
  rw [if_pos (own_ltk (k := (4 : Int32)) rfl B4.2.2.2.1)]
  rw [if_neg (show ¬ p4 = q4 from fun z => B4.2.2.2.2 (congrArg Int32.toInt z))]
  rw [own_f11 (oH84 s0 s1 s2 s3 s4 p4 q4 c) 0 (0 : Int32) (4 : Int32) p4 q4 s0 a4 b4 0 rfl (by decide) rfl x4 y4 C4_0]
  rw [Option.bind_some]
  rw [own_letP1]
  rw [own_letP2]
  rw [if_neg (by decide : ¬ ((1 : Int32) = (0 : Int32)))]
  rw [own_f11 (oH84 s0 s1 s2 s3 s4 p4 q4 c) 0 (1 : Int32) (4 : Int32) p4 q4 s1 a4 b4 1 rfl (by decide) rfl x4 y4 C4_1]
  rw [Option.bind_some]
  rw [own_letP1]
  rw [own_letP2]
  rw [if_neg (by decide : ¬ ((1 : Int32) = (0 : Int32)))]
  rw [own_f11 (oH84 s0 s1 s2 s3 s4 p4 q4 c) 0 (2 : Int32) (4 : Int32) p4 q4 s2 a4 b4 2 rfl (by decide) rfl x4 y4 C4_2]
  rw [Option.bind_some]
  rw [own_letP1]
  rw [own_letP2]
  rw [if_neg (by decide : ¬ ((1 : Int32) = (0 : Int32)))]
  rw [own_f11 (oH84 s0 s1 s2 s3 s4 p4 q4 c) 0 (3 : Int32) (4 : Int32) p4 q4 s3 a4 b4 3 rfl (by decide) rfl x4 y4 C4_3]
  rw [Option.bind_some]
  rw [own_letP1]
  rw [own_letP2]
  rw [if_neg (by decide : ¬ ((1 : Int32) = (0 : Int32)))]
  rw [f11, if_neg (by decide)]
  rw [Option.bind_some]
  rw [own_letP1]
  rw [own_letP2]
  rw [if_neg (by decide : ¬ ((1 : Int32) = (0 : Int32)))]
  exact ⟨_, rfl⟩
set_option maxRecDepth 20000 in
set_option maxHeartbeats 4000000 in
theorem own_f3_5 (s0 s1 s2 s3 s4 : Int32) (h0 : 0 ≤ s0.toInt ∧ s0.toInt ≤ 512) (h1 : 0 ≤ s1.toInt ∧ s1.toInt ≤ 512) (h2 : 0 ≤ s2.toInt ∧ s2.toInt ≤ 512) (h3 : 0 ≤ s3.toInt ∧ s3.toInt ≤ 512) (h4 : 0 ≤ s4.toInt ∧ s4.toInt ≤ 512) : ∃ c : Int64, f3 (oH91 s0 s1 s2 s3 s4) 2 1 = some (oH117 s0 s1 s2 s3 s4 c) := by
  obtain ⟨c, hp, hc⟩ := own_pc5 (oH91 s0 s1 s2 s3 s4) 1 s0 s1 s2 s3 s4 rfl h0 h1 h2 h3 h4
  refine ⟨c, ?_⟩
  rw [f3]
  rw [hp]
  rw [Option.bind_some]
  rw [own_letP1]
  rw [own_letP2]
  rw [if_neg (own_big c hc)]
  rw [own_letV (show List.length (oH91 s0 s1 s2 s3 s4) = 3 from rfl)]
  rw [own_bs (show cA' (oH91 s0 s1 s2 s3 s4) 1 0 8 = some (oH92 s0 s1 s2 s3 s4) from rfl)]
  rw [own_bs (show ck (oH92 s0 s1 s2 s3 s4) 3 0 = some 0 from rfl)]
  rw [own_bs (show pV (oH92 s0 s1 s2 s3 s4) 2 1 0 (.ref 3) = some (oH93 s0 s1 s2 s3 s4) from rfl)]
  rw [own_bs (show lA (oH93 s0 s1 s2 s3 s4) 1 0 = some (5 : Int32) from rfl)]
  rw [own_letV (show List.length (oH93 s0 s1 s2 s3 s4) = 4 from rfl)]
  rw [own_bs (show nA (oH93 s0 s1 s2 s3 s4) 0 ((5 : Int32) + (1 : Int32)) 8 (.int (0 : Int32)) = some (oH95 s0 s1 s2 s3 s4) from rfl)]
  rw [own_bs (show pV (oH95 s0 s1 s2 s3 s4) 2 1 1 (.ref 4) = some (oH96 s0 s1 s2 s3 s4) from rfl)]
  rw [b3_55]
  rw [own_bs (show lA (oH96 s0 s1 s2 s3 s4) 1 0 = some (5 : Int32) from rfl)]
  rw [if_pos (by decide : ((0 : Int32) < (5 : Int32)))]
  rw [own_bs (show gR (oH96 s0 s1 s2 s3 s4) 2 1 1 = some 4 from rfl)]
  rw [own_bs (show gR (oH96 s0 s1 s2 s3 s4) 2 1 1 = some 4 from rfl)]
  rw [own_bs (show rI (oH96 s0 s1 s2 s3 s4) 4 0 (0 : Int32) = some (0 : Int32) from rfl)]
  rw [own_bs (show rI (oH96 s0 s1 s2 s3 s4) 1 0 (0 : Int32) = some s0 from rfl)]
  rw [own_bs (show wV (oH96 s0 s1 s2 s3 s4) 4 0 ((0 : Int32) + (1 : Int32)) (.int ((0 : Int32) + s0)) = some (oH98 s0 s1 s2 s3 s4) from rfl)]
  try rw [show ((0 : Int32) + (1 : Int32)) = (1 : Int32) from rfl]
  rw [b3_55]
  rw [own_bs (show lA (oH98 s0 s1 s2 s3 s4) 1 0 = some (5 : Int32) from rfl)]
  rw [if_pos (by decide : ((1 : Int32) < (5 : Int32)))]
  rw [own_bs (show gR (oH98 s0 s1 s2 s3 s4) 2 1 1 = some 4 from rfl)]
  rw [own_bs (show gR (oH98 s0 s1 s2 s3 s4) 2 1 1 = some 4 from rfl)]
  rw [own_bs (show rI (oH98 s0 s1 s2 s3 s4) 4 0 (1 : Int32) = some ((0 : Int32) + s0) from rfl)]
  rw [own_bs (show rI (oH98 s0 s1 s2 s3 s4) 1 0 (1 : Int32) = some s1 from rfl)]
  rw [own_bs (show wV (oH98 s0 s1 s2 s3 s4) 4 0 ((1 : Int32) + (1 : Int32)) (.int (((0 : Int32) + s0) + s1)) = some (oH100 s0 s1 s2 s3 s4) from rfl)]
  try rw [show ((1 : Int32) + (1 : Int32)) = (2 : Int32) from rfl]
  rw [b3_55]
  rw [own_bs (show lA (oH100 s0 s1 s2 s3 s4) 1 0 = some (5 : Int32) from rfl)]
  rw [if_pos (by decide : ((2 : Int32) < (5 : Int32)))]
  rw [own_bs (show gR (oH100 s0 s1 s2 s3 s4) 2 1 1 = some 4 from rfl)]
  rw [own_bs (show gR (oH100 s0 s1 s2 s3 s4) 2 1 1 = some 4 from rfl)]
  rw [own_bs (show rI (oH100 s0 s1 s2 s3 s4) 4 0 (2 : Int32) = some (((0 : Int32) + s0) + s1) from rfl)]
  rw [own_bs (show rI (oH100 s0 s1 s2 s3 s4) 1 0 (2 : Int32) = some s2 from rfl)]
  rw [own_bs (show wV (oH100 s0 s1 s2 s3 s4) 4 0 ((2 : Int32) + (1 : Int32)) (.int ((((0 : Int32) + s0) + s1) + s2)) = some (oH102 s0 s1 s2 s3 s4) from rfl)]
  try rw [show ((2 : Int32) + (1 : Int32)) = (3 : Int32) from rfl]
  rw [b3_55]
  rw [own_bs (show lA (oH102 s0 s1 s2 s3 s4) 1 0 = some (5 : Int32) from rfl)]
  rw [if_pos (by decide : ((3 : Int32) < (5 : Int32)))]
  rw [own_bs (show gR (oH102 s0 s1 s2 s3 s4) 2 1 1 = some 4 from rfl)]
  rw [own_bs (show gR (oH102 s0 s1 s2 s3 s4) 2 1 1 = some 4 from rfl)]
  rw [own_bs (show rI (oH102 s0 s1 s2 s3 s4) 4 0 (3 : Int32) = some ((((0 : Int32) + s0) + s1) + s2) from rfl)]
  rw [own_bs (show rI (oH102 s0 s1 s2 s3 s4) 1 0 (3 : Int32) = some s3 from rfl)]
  rw [own_bs (show wV (oH102 s0 s1 s2 s3 s4) 4 0 ((3 : Int32) + (1 : Int32)) (.int (((((0 : Int32) + s0) + s1) + s2) + s3)) = some (oH104 s0 s1 s2 s3 s4) from rfl)]
  try rw [show ((3 : Int32) + (1 : Int32)) = (4 : Int32) from rfl]
  rw [b3_55]
  rw [own_bs (show lA (oH104 s0 s1 s2 s3 s4) 1 0 = some (5 : Int32) from rfl)]
  rw [if_pos (by decide : ((4 : Int32) < (5 : Int32)))]
  rw [own_bs (show gR (oH104 s0 s1 s2 s3 s4) 2 1 1 = some 4 from rfl)]
  rw [own_bs (show gR (oH104 s0 s1 s2 s3 s4) 2 1 1 = some 4 from rfl)]
  rw [own_bs (show rI (oH104 s0 s1 s2 s3 s4) 4 0 (4 : Int32) = some (((((0 : Int32) + s0) + s1) + s2) + s3) from rfl)]
  rw [own_bs (show rI (oH104 s0 s1 s2 s3 s4) 1 0 (4 : Int32) = some s4 from rfl)]
  rw [own_bs (show wV (oH104 s0 s1 s2 s3 s4) 4 0 ((4 : Int32) + (1 : Int32)) (.int ((((((0 : Int32) + s0) + s1) + s2) + s3) + s4)) = some (oH106 s0 s1 s2 s3 s4) from rfl)]
  try rw [show ((4 : Int32) + (1 : Int32)) = (5 : Int32) from rfl]
  rw [b3_55]
  rw [own_bs (show lA (oH106 s0 s1 s2 s3 s4) 1 0 = some (5 : Int32) from rfl)]
  rw [if_neg (by decide : ¬ ((5 : Int32) < (5 : Int32)))]
  rw [own_bs (show lA (oH106 s0 s1 s2 s3 s4) 1 0 = some (5 : Int32) from rfl)]
  rw [own_letV (show List.length (oH106 s0 s1 s2 s3 s4) = 5 from rfl)]
  rw [own_bs (show nA (oH106 s0 s1 s2 s3 s4) 0 (5 : Int32) 8 (.int (0 : Int32)) = some (oH107 s0 s1 s2 s3 s4) from rfl)]
  rw [own_bs (show pV (oH107 s0 s1 s2 s3 s4) 2 1 2 (.ref 5) = some (oH108 s0 s1 s2 s3 s4) from rfl)]
  rw [b3_100]
  rw [own_bs (show lA (oH108 s0 s1 s2 s3 s4) 1 0 = some (5 : Int32) from rfl)]
  rw [if_pos (by decide : ((1 : Int32) < (5 : Int32)))]
  rw [own_bs (show gR (oH108 s0 s1 s2 s3 s4) 2 1 2 = some 5 from rfl)]
  rw [own_bs (show gR (oH108 s0 s1 s2 s3 s4) 2 1 2 = some 5 from rfl)]
  rw [own_bs (show rI (oH108 s0 s1 s2 s3 s4) 5 0 ((1 : Int32) - (1 : Int32)) = some (0 : Int32) from rfl)]
  rw [own_bs (show rI (oH108 s0 s1 s2 s3 s4) 1 0 ((1 : Int32) - (1 : Int32)) = some s0 from rfl)]
  rw [own_bs (show gR (oH108 s0 s1 s2 s3 s4) 2 1 1 = some 4 from rfl)]
  rw [own_bs (show lA (oH108 s0 s1 s2 s3 s4) 1 0 = some (5 : Int32) from rfl)]
  rw [own_bs (show rI (oH108 s0 s1 s2 s3 s4) 4 0 (5 : Int32) = some ((((((0 : Int32) + s0) + s1) + s2) + s3) + s4) from rfl)]
  rw [own_bs (show gR (oH108 s0 s1 s2 s3 s4) 2 1 1 = some 4 from rfl)]
  rw [own_bs (show rI (oH108 s0 s1 s2 s3 s4) 4 0 (1 : Int32) = some ((0 : Int32) + s0) from rfl)]
  rw [own_bs (show wV (oH108 s0 s1 s2 s3 s4) 5 0 (1 : Int32) (.int ((0 : Int32) + (s0 * (((((((0 : Int32) + s0) + s1) + s2) + s3) + s4) - ((0 : Int32) + s0))))) = some (oH110 s0 s1 s2 s3 s4) from rfl)]
  try rw [show ((1 : Int32) + (1 : Int32)) = (2 : Int32) from rfl]
  rw [b3_100]
  rw [own_bs (show lA (oH110 s0 s1 s2 s3 s4) 1 0 = some (5 : Int32) from rfl)]
  rw [if_pos (by decide : ((2 : Int32) < (5 : Int32)))]
  rw [own_bs (show gR (oH110 s0 s1 s2 s3 s4) 2 1 2 = some 5 from rfl)]
  rw [own_bs (show gR (oH110 s0 s1 s2 s3 s4) 2 1 2 = some 5 from rfl)]
  rw [own_bs (show rI (oH110 s0 s1 s2 s3 s4) 5 0 ((2 : Int32) - (1 : Int32)) = some ((0 : Int32) + (s0 * (((((((0 : Int32) + s0) + s1) + s2) + s3) + s4) - ((0 : Int32) + s0)))) from rfl)]
  rw [own_bs (show rI (oH110 s0 s1 s2 s3 s4) 1 0 ((2 : Int32) - (1 : Int32)) = some s1 from rfl)]
  rw [own_bs (show gR (oH110 s0 s1 s2 s3 s4) 2 1 1 = some 4 from rfl)]
  rw [own_bs (show lA (oH110 s0 s1 s2 s3 s4) 1 0 = some (5 : Int32) from rfl)]
  rw [own_bs (show rI (oH110 s0 s1 s2 s3 s4) 4 0 (5 : Int32) = some ((((((0 : Int32) + s0) + s1) + s2) + s3) + s4) from rfl)]
  rw [own_bs (show gR (oH110 s0 s1 s2 s3 s4) 2 1 1 = some 4 from rfl)]
  rw [own_bs (show rI (oH110 s0 s1 s2 s3 s4) 4 0 (2 : Int32) = some (((0 : Int32) + s0) + s1) from rfl)]
  rw [own_bs (show wV (oH110 s0 s1 s2 s3 s4) 5 0 (2 : Int32) (.int (((0 : Int32) + (s0 * (((((((0 : Int32) + s0) + s1) + s2) + s3) + s4) - ((0 : Int32) + s0)))) + (s1 * (((((((0 : Int32) + s0) + s1) + s2) + s3) + s4) - (((0 : Int32) + s0) + s1))))) = some (oH112 s0 s1 s2 s3 s4) from rfl)]
  try rw [show ((2 : Int32) + (1 : Int32)) = (3 : Int32) from rfl]
  rw [b3_100]
  rw [own_bs (show lA (oH112 s0 s1 s2 s3 s4) 1 0 = some (5 : Int32) from rfl)]
  rw [if_pos (by decide : ((3 : Int32) < (5 : Int32)))]
  rw [own_bs (show gR (oH112 s0 s1 s2 s3 s4) 2 1 2 = some 5 from rfl)]
  rw [own_bs (show gR (oH112 s0 s1 s2 s3 s4) 2 1 2 = some 5 from rfl)]
  rw [own_bs (show rI (oH112 s0 s1 s2 s3 s4) 5 0 ((3 : Int32) - (1 : Int32)) = some (((0 : Int32) + (s0 * (((((((0 : Int32) + s0) + s1) + s2) + s3) + s4) - ((0 : Int32) + s0)))) + (s1 * (((((((0 : Int32) + s0) + s1) + s2) + s3) + s4) - (((0 : Int32) + s0) + s1)))) from rfl)]
  rw [own_bs (show rI (oH112 s0 s1 s2 s3 s4) 1 0 ((3 : Int32) - (1 : Int32)) = some s2 from rfl)]
  rw [own_bs (show gR (oH112 s0 s1 s2 s3 s4) 2 1 1 = some 4 from rfl)]
  rw [own_bs (show lA (oH112 s0 s1 s2 s3 s4) 1 0 = some (5 : Int32) from rfl)]
  rw [own_bs (show rI (oH112 s0 s1 s2 s3 s4) 4 0 (5 : Int32) = some ((((((0 : Int32) + s0) + s1) + s2) + s3) + s4) from rfl)]
  rw [own_bs (show gR (oH112 s0 s1 s2 s3 s4) 2 1 1 = some 4 from rfl)]
  rw [own_bs (show rI (oH112 s0 s1 s2 s3 s4) 4 0 (3 : Int32) = some ((((0 : Int32) + s0) + s1) + s2) from rfl)]
  rw [own_bs (show wV (oH112 s0 s1 s2 s3 s4) 5 0 (3 : Int32) (.int ((((0 : Int32) + (s0 * (((((((0 : Int32) + s0) + s1) + s2) + s3) + s4) - ((0 : Int32) + s0)))) + (s1 * (((((((0 : Int32) + s0) + s1) + s2) + s3) + s4) - (((0 : Int32) + s0) + s1)))) + (s2 * (((((((0 : Int32) + s0) + s1) + s2) + s3) + s4) - ((((0 : Int32) + s0) + s1) + s2))))) = some (oH114 s0 s1 s2 s3 s4) from rfl)]
  try rw [show ((3 : Int32) + (1 : Int32)) = (4 : Int32) from rfl]
  rw [b3_100]
  rw [own_bs (show lA (oH114 s0 s1 s2 s3 s4) 1 0 = some (5 : Int32) from rfl)]
  rw [if_pos (by decide : ((4 : Int32) < (5 : Int32)))]
  rw [own_bs (show gR (oH114 s0 s1 s2 s3 s4) 2 1 2 = some 5 from rfl)]
  rw [own_bs (show gR (oH114 s0 s1 s2 s3 s4) 2 1 2 = some 5 from rfl)]
  rw [own_bs (show rI (oH114 s0 s1 s2 s3 s4) 5 0 ((4 : Int32) - (1 : Int32)) = some ((((0 : Int32) + (s0 * (((((((0 : Int32) + s0) + s1) + s2) + s3) + s4) - ((0 : Int32) + s0)))) + (s1 * (((((((0 : Int32) + s0) + s1) + s2) + s3) + s4) - (((0 : Int32) + s0) + s1)))) + (s2 * (((((((0 : Int32) + s0) + s1) + s2) + s3) + s4) - ((((0 : Int32) + s0) + s1) + s2)))) from rfl)]
  rw [own_bs (show rI (oH114 s0 s1 s2 s3 s4) 1 0 ((4 : Int32) - (1 : Int32)) = some s3 from rfl)]
  rw [own_bs (show gR (oH114 s0 s1 s2 s3 s4) 2 1 1 = some 4 from rfl)]
  rw [own_bs (show lA (oH114 s0 s1 s2 s3 s4) 1 0 = some (5 : Int32) from rfl)]
  rw [own_bs (show rI (oH114 s0 s1 s2 s3 s4) 4 0 (5 : Int32) = some ((((((0 : Int32) + s0) + s1) + s2) + s3) + s4) from rfl)]
  rw [own_bs (show gR (oH114 s0 s1 s2 s3 s4) 2 1 1 = some 4 from rfl)]
  rw [own_bs (show rI (oH114 s0 s1 s2 s3 s4) 4 0 (4 : Int32) = some (((((0 : Int32) + s0) + s1) + s2) + s3) from rfl)]
  rw [own_bs (show wV (oH114 s0 s1 s2 s3 s4) 5 0 (4 : Int32) (.int (((((0 : Int32) + (s0 * (((((((0 : Int32) + s0) + s1) + s2) + s3) + s4) - ((0 : Int32) + s0)))) + (s1 * (((((((0 : Int32) + s0) + s1) + s2) + s3) + s4) - (((0 : Int32) + s0) + s1)))) + (s2 * (((((((0 : Int32) + s0) + s1) + s2) + s3) + s4) - ((((0 : Int32) + s0) + s1) + s2)))) + (s3 * (((((((0 : Int32) + s0) + s1) + s2) + s3) + s4) - (((((0 : Int32) + s0) + s1) + s2) + s3))))) = some (oH116 s0 s1 s2 s3 s4) from rfl)]
  try rw [show ((4 : Int32) + (1 : Int32)) = (5 : Int32) from rfl]
  rw [b3_100]
  rw [own_bs (show lA (oH116 s0 s1 s2 s3 s4) 1 0 = some (5 : Int32) from rfl)]
  rw [if_neg (by decide : ¬ ((5 : Int32) < (5 : Int32)))]
  rw [own_bs (show pV (oH116 s0 s1 s2 s3 s4) 2 1 3 (.int (c.toInt32)) = some (oH117 s0 s1 s2 s3 s4 c) from rfl)]
set_option maxRecDepth 20000 in
set_option maxHeartbeats 4000000 in
theorem own_b_5 (i0 i1 i2 i3 i4 t : Int32) : ∃ D', b0_20 [] i0 i1 i2 i3 i4 (5 : Int32) t = some ((1 : Int32), D') := by
  rw [b0_20]
  rw [own_letV (show List.length ([] : Hp) = 0 from rfl)]
  rw [own_bs (show nA ([] : Hp) 0 (5 : Int32) 5 (.int (0 : Int32)) = some oH2 from rfl)]
  obtain ⟨s0, e0, h0⟩ := own_f1 oH2 i0 t
  rw [e0]
  rw [Option.bind_some]
  rw [own_letP1]
  rw [own_letP2]
  rw [own_bs (show wV oH2 0 0 (0 : Int32) (.int s0) = some (oH4 s0) from rfl)]
  obtain ⟨s1, e1, h1⟩ := own_f1 (oH4 s0) i1 t
  rw [e1]
  rw [Option.bind_some]
  rw [own_letP1]
  rw [own_letP2]
  rw [own_bs (show wV (oH4 s0) 0 0 (1 : Int32) (.int s1) = some (oH6 s0 s1) from rfl)]
  obtain ⟨s2, e2, h2⟩ := own_f1 (oH6 s0 s1) i2 t
  rw [e2]
  rw [Option.bind_some]
  rw [own_letP1]
  rw [own_letP2]
  rw [own_bs (show wV (oH6 s0 s1) 0 0 (2 : Int32) (.int s2) = some (oH7 s0 s1 s2) from rfl)]
  obtain ⟨s3, e3, h3⟩ := own_f1 (oH7 s0 s1 s2) i3 t
  rw [e3]
  rw [Option.bind_some]
  rw [own_letP1]
  rw [own_letP2]
  rw [own_bs (show wV (oH7 s0 s1 s2) 0 0 (3 : Int32) (.int s3) = some (oH8 s0 s1 s2 s3) from rfl)]
  obtain ⟨s4, e4, h4⟩ := own_f1 (oH8 s0 s1 s2 s3) i4 t
  rw [e4]
  rw [Option.bind_some]
  rw [own_letP1]
  rw [own_letP2]
  rw [own_bs (show wV (oH8 s0 s1 s2 s3) 0 0 (4 : Int32) (.int s4) = some (oH9 s0 s1 s2 s3 s4) from rfl)]
  rw [f2]
  rw [if_neg (by decide : ¬ ((5 : Int32) = (2 : Int32)))]
  rw [if_neg (by decide : ¬ ((5 : Int32) = (3 : Int32)))]
  rw [if_neg (by decide : ¬ ((5 : Int32) = (4 : Int32)))]
  rw [own_letV (show List.length (oH9 s0 s1 s2 s3 s4) = 1 from rfl)]
  rw [own_bs (show nA (oH9 s0 s1 s2 s3 s4) 0 (5 : Int32) 5 (.int (0 : Int32)) = some (oH85 s0 s1 s2 s3 s4) from rfl)]
  rw [own_bs (show rI (oH85 s0 s1 s2 s3 s4) 0 0 (0 : Int32) = some s0 from rfl)]
  rw [own_bs (show wV (oH85 s0 s1 s2 s3 s4) 1 0 (0 : Int32) (.int s0) = some (oH86 s0 s1 s2 s3 s4) from rfl)]
  rw [own_bs (show rI (oH86 s0 s1 s2 s3 s4) 0 0 (1 : Int32) = some s1 from rfl)]
  rw [own_bs (show wV (oH86 s0 s1 s2 s3 s4) 1 0 (1 : Int32) (.int s1) = some (oH87 s0 s1 s2 s3 s4) from rfl)]
  rw [own_bs (show rI (oH87 s0 s1 s2 s3 s4) 0 0 (2 : Int32) = some s2 from rfl)]
  rw [own_bs (show wV (oH87 s0 s1 s2 s3 s4) 1 0 (2 : Int32) (.int s2) = some (oH88 s0 s1 s2 s3 s4) from rfl)]
  rw [own_bs (show rI (oH88 s0 s1 s2 s3 s4) 0 0 (3 : Int32) = some s3 from rfl)]
  rw [own_bs (show wV (oH88 s0 s1 s2 s3 s4) 1 0 (3 : Int32) (.int s3) = some (oH89 s0 s1 s2 s3 s4) from rfl)]
  rw [own_bs (show rI (oH89 s0 s1 s2 s3 s4) 0 0 (4 : Int32) = some s4 from rfl)]
  rw [own_bs (show wV (oH89 s0 s1 s2 s3 s4) 1 0 (4 : Int32) (.int s4) = some (oH90 s0 s1 s2 s3 s4) from rfl)]
  rw [Option.bind_some]
  rw [own_letP1]
  rw [own_letP2]
  rw [own_letV (show List.length (oH90 s0 s1 s2 s3 s4) = 2 from rfl)]
  rw [own_letV (show (oH90 s0 s1 s2 s3 s4) ++ ([(1, [.null, .null, .null, .int (0 : Int32)])] : Hp) = (oH91 s0 s1 s2 s3 s4) from rfl)]
  obtain ⟨c, hk⟩ := own_f3_5 s0 s1 s2 s3 s4 h0 h1 h2 h3 h4
  rw [hk]
  rw [Option.bind_some]
  rw [own_bs (show ck (oH117 s0 s1 s2 s3 s4 c) 2 1 = some 1 from rfl)]
  obtain ⟨p2, q2, a2, b2, g2, u2, v2, x2, y2, B2, C2_0, C2_1⟩ := own_st0 (oH117 s0 s1 s2 s3 s4 c) (oH9 s0 s1 s2 s3 s4) 2 3 s0 s1 rfl rfl rfl rfl rfl
  rw [g2]
  obtain ⟨p3, q3, a3, b3, g3, u3, v3, x3, y3, S3⟩ := own_lp 11 (oH117 s0 s1 s2 s3 s4 c) (oH9 s0 s1 s2 s3 s4) 2 3 p2 q2 (2 : Int32) (5 : Int32) s2 a2 b2 2 rfl rfl rfl (by decide) rfl u2 v2 rfl x2 y2
  rw [show (12 : Nat) = 11 + 1 from rfl, g3, show (2 : Int32) + (1 : Int32) = 3 from rfl]
  have B3 : oB p3.toInt q3.toInt 3 := own_bn (by decide) B2 S3
  have C3_0 := own_cs (by decide) C2_0 S3
  have C3_1 := own_cs (by decide) C2_1 S3
  have C3_2 := own_cn B2.2.1 B2.2.2.2.1 S3
  obtain ⟨p4, q4, a4, b4, g4, u4, v4, x4, y4, S4⟩ := own_lp 10 (oH117 s0 s1 s2 s3 s4 c) (oH9 s0 s1 s2 s3 s4) 2 3 p3 q3 (3 : Int32) (5 : Int32) s3 a3 b3 3 rfl rfl rfl (by decide) rfl u3 v3 rfl x3 y3
  rw [show (11 : Nat) = 10 + 1 from rfl, g4, show (3 : Int32) + (1 : Int32) = 4 from rfl]
  have B4 : oB p4.toInt q4.toInt 4 := own_bn (by decide) B3 S4
  have C4_0 := own_cs (by decide) C3_0 S4
  have C4_1 := own_cs (by decide) C3_1 S4
  have C4_2 := own_cs (by decide) C3_2 S4
  have C4_3 := own_cn B3.2.1 B3.2.2.2.1 S4
  obtain ⟨p5, q5, a5, b5, g5, u5, v5, x5, y5, S5⟩ := own_lp 9 (oH117 s0 s1 s2 s3 s4 c) (oH9 s0 s1 s2 s3 s4) 2 3 p4 q4 (4 : Int32) (5 : Int32) s4 a4 b4 4 rfl rfl rfl (by decide) rfl u4 v4 rfl x4 y4
  rw [show (10 : Nat) = 9 + 1 from rfl, g5, show (4 : Int32) + (1 : Int32) = 5 from rfl]
  have B5 : oB p5.toInt q5.toInt 5 := own_bn (by decide) B4 S5
  have C5_0 := own_cs (by decide) C4_0 S5
  have C5_1 := own_cs (by decide) C4_1 S5
  have C5_2 := own_cs (by decide) C4_2 S5
  have C5_3 := own_cs (by decide) C4_3 S5
  have C5_4 := own_cn B4.2.1 B4.2.2.2.1 S5
  rw [show (9 : Nat) = 8 + 1 from rfl, b10_25]
  rw [own_bs (show gR (oH117 s0 s1 s2 s3 s4 c) 2 1 0 = some 3 from rfl)]
  rw [own_bs (show lA (oH117 s0 s1 s2 s3 s4 c) 3 0 = some (5 : Int32) from rfl)]
  rw [if_neg (by decide : ¬ ((5 : Int32) < (5 : Int32)))]
  rw [own_letV (show List.length (oH117 s0 s1 s2 s3 s4 c) = 6 from rfl)]
  rw [own_bs (show nA (oH117 s0 s1 s2 s3 s4 c) 0 (2 : Int32) 2 (.int (0 : Int32)) = some (oH118 s0 s1 s2 s3 s4 c) from rfl)]
  rw [own_bs (show wV (oH118 s0 s1 s2 s3 s4 c) 6 0 (0 : Int32) (.int p5) = some (oH119 s0 s1 s2 s3 s4 p5 c) from rfl)]
  rw [own_bs (show wV (oH119 s0 s1 s2 s3 s4 p5 c) 6 0 (1 : Int32) (.int q5) = some (oH120 s0 s1 s2 s3 s4 p5 q5 c) from rfl)]
  rw [Option.bind_some]
  rw [own_letP1]
  rw [own_letP2]
  rw [own_bs (show lA (oH120 s0 s1 s2 s3 s4 p5 q5 c) 6 0 = some (2 : Int32) from rfl)]
  rw [if_pos (by decide : ((2 : Int32) = (2 : Int32)))]
  rw [own_bs (show rI (oH120 s0 s1 s2 s3 s4 p5 q5 c) 6 0 (0 : Int32) = some p5 from rfl)]
  rw [own_bs (show rI (oH120 s0 s1 s2 s3 s4 p5 q5 c) 6 0 (1 : Int32) = some q5 from rfl)]
  rw [if_neg (own_nlt0 B5.1)]
  rw [if_pos (own_ltk (k := (5 : Int32)) rfl B5.2.1)]
  rw [if_neg (own_nlt0 B5.2.2.1)]
  rw [if_pos (own_ltk (k := (5 : Int32)) rfl B5.2.2.2.1)]
  rw [if_neg (show ¬ p5 = q5 from fun z => B5.2.2.2.2 (congrArg Int32.toInt z))]
  rw [own_f11 (oH120 s0 s1 s2 s3 s4 p5 q5 c) 0 (0 : Int32) (5 : Int32) p5 q5 s0 a5 b5 0 rfl (by decide) rfl x5 y5 C5_0]
  rw [Option.bind_some]
  rw [own_letP1]
  rw [own_letP2]
  rw [if_neg (by decide : ¬ ((1 : Int32) = (0 : Int32)))]
  rw [own_f11 (oH120 s0 s1 s2 s3 s4 p5 q5 c) 0 (1 : Int32) (5 : Int32) p5 q5 s1 a5 b5 1 rfl (by decide) rfl x5 y5 C5_1]
  rw [Option.bind_some]
  rw [own_letP1]
  rw [own_letP2]
  rw [if_neg (by decide : ¬ ((1 : Int32) = (0 : Int32)))]
  rw [own_f11 (oH120 s0 s1 s2 s3 s4 p5 q5 c) 0 (2 : Int32) (5 : Int32) p5 q5 s2 a5 b5 2 rfl (by decide) rfl x5 y5 C5_2]
  rw [Option.bind_some]
  rw [own_letP1]
  rw [own_letP2]
  rw [if_neg (by decide : ¬ ((1 : Int32) = (0 : Int32)))]
  rw [own_f11 (oH120 s0 s1 s2 s3 s4 p5 q5 c) 0 (3 : Int32) (5 : Int32) p5 q5 s3 a5 b5 3 rfl (by decide) rfl x5 y5 C5_3]
  rw [Option.bind_some]
  rw [own_letP1]
  rw [own_letP2]
  rw [if_neg (by decide : ¬ ((1 : Int32) = (0 : Int32)))]
  rw [own_f11 (oH120 s0 s1 s2 s3 s4 p5 q5 c) 0 (4 : Int32) (5 : Int32) p5 q5 s4 a5 b5 4 rfl (by decide) rfl x5 y5 C5_4]
  rw [Option.bind_some]
  rw [own_letP1]
  rw [own_letP2]
  rw [if_neg (by decide : ¬ ((1 : Int32) = (0 : Int32)))]
  exact ⟨_, rfl⟩
theorem law_ok (i0 : Int32) (i1 : Int32) (i2 : Int32) (i3 : Int32) (i4 : Int32) (i5 : Int32) : ∃ D', f0 [] i0 i1 i2 i3 i4 i5 = some ((1 : Int32), D') := by
  rw [f0, own_letU]
  have qn := own_n4 i5
  generalize (2 : Int32) + (i5 &&& (3 : Int32)) = n at qn ⊢
  by_cases h : (i5 &&& (4 : Int32)) = (0 : Int32)
  · rw [if_pos h]
    rcases qn with rfl | rfl | rfl | rfl
    · exact own_b_2 i0 i1 i2 i3 i4 0
    · exact own_b_3 i0 i1 i2 i3 i4 0
    · exact own_b_4 i0 i1 i2 i3 i4 0
    · exact own_b_5 i0 i1 i2 i3 i4 0
  · rw [if_neg h]
    rcases qn with rfl | rfl | rfl | rfl
    · exact own_b_2 i0 i1 i2 i3 i4 1
    · exact own_b_3 i0 i1 i2 i3 i4 1
    · exact own_b_4 i0 i1 i2 i3 i4 1
    · exact own_b_5 i0 i1 i2 i3 i4 1
set_option maxRecDepth 65536 in
set_option maxHeartbeats 40000000 in
theorem comes_1 {Post : Tables → Env → Array Value → State → Outcome → State → Prop} (hpost : ∀ tb e args s v u, (limb_1_1.after args s (.returned v) u = true ∧ limb_1_2.after args s (.returned v) u = true ∧ True) → FrameEnd s (.returned v) u (Jvm.fieldLocs frame_1_writes args s ++ Jvm.arrayLocs frame_1_arrays args s ++ Jvm.staticLocs frame_1_statics s) 24 128 → Post tb e args s (.returned v) u) :
    ArmFor flags0 classFile x code maxLocals ret World_1 tables_1 room_1 Calls_1 rest_1 Pre_1 Post := by
  intro l hfl _ _ p e ha hc hk s m args below hf hA hF happ hP
  obtain ⟨hcalls, hrest, hpre⟩ := hP
  obtain ⟨-, -, -, hnamed, -, -, -, hat⟩ := (Spec.applies_iff hf).mp happ
  obtain ⟨hg, hn⟩ := and_e (Cond.before_iff.mp (show (Jvm.Cond.and given_1 narrow_1).before args s = true from hpre))
  obtain ⟨g0, hg⟩ := and_e hg
  obtain ⟨gg0, hg⟩ := and_e hg
  obtain ⟨gg1, hg⟩ := and_e hg
  obtain ⟨gg2, hg⟩ := and_e hg
  obtain ⟨gg3, hg⟩ := and_e hg
  obtain ⟨gg4, hg⟩ := and_e hg
  have gg5 := hg
  obtain ⟨w0, w1, w2, w3, w4, w5, rfl⟩ : ∃ w0 w1 w2 w3 w4 w5 : Value, args = #[w0, w1, w2, w3, w4, w5] := by
    have hs : args.size = 6 := by simpa [Cond.value, given_1] using g0
    obtain ⟨L⟩ := args
    match L, hs with
    | [w0, w1, w2, w3, w4, w5], _ => exact ⟨w0, w1, w2, w3, w4, w5, rfl⟩
  have hw := fun d (hd : d ∈ tables_1) => atoms_spec (ws := Jvm.Cond.code x code maxLocals ret :: tables_1) hat d (List.mem_cons_of_mem _ hd)
  obtain ⟨i0, ei0⟩ := is_v gg0
  obtain rfl : w0 = (.int i0) := Option.some.inj ei0
  obtain ⟨i1, ei1⟩ := is_v gg1
  obtain rfl : w1 = (.int i1) := Option.some.inj ei1
  obtain ⟨i2, ei2⟩ := is_v gg2
  obtain rfl : w2 = (.int i2) := Option.some.inj ei2
  obtain ⟨i3, ei3⟩ := is_v gg3
  obtain rfl : w3 = (.int i3) := Option.some.inj ei3
  obtain ⟨i4, ei4⟩ := is_v gg4
  obtain rfl : w4 = (.int i4) := Option.some.inj ei4
  obtain ⟨i5, ei5⟩ := is_v gg5
  obtain rfl : w5 = (.int i5) := Option.some.inj ei5
  obtain ⟨D', hlaw⟩ := law_ok i0 i1 i2 i3 i4 i5
  obtain ⟨n, o, h1, h2, h3, _, L, rfl, ⟨rfl, N, -⟩, hq⟩ := ct0 (l := l) hw hlaw s.heap tables_1 (own_ow0 s.heap) p e ha hc hk s m _ below hf ((Spec.applies_iff_loose hf).mp happ).1 ⟨rfl, State.Warmed39.refl s, rfl⟩ trivial
  exact ⟨n, _, h1, h2, h3, hpost _ _ _ _ _ _ ⟨Cond.after_iff.mpr rfl, Cond.after_iff.mpr (eq_i res_at (Term.int_eval (1)) rfl), trivial⟩ ⟨hq.1, hq.2.1, (hq.2.2.sift fun y hy => Or.inr (N y hy)).mono (by decide) (by decide)⟩⟩
theorem main_1_1 : Claimed_1_1 := comes_1 fun _ _ _ _ _ _ h hF => ⟨h.1, hF⟩
theorem main_1_2 : Claimed_1_2 := comes_1 fun _ _ _ _ _ _ h hF => ⟨h.2.1, hF⟩
end Jvm.Pilot.@@N@@
namespace Jvm.Pilot.@@N@@
open Jvm Jvm.ClassFile Sem Op Lib Jvm.Free Jvm.Stand Jvm.Pilot.@@N@@.Jvm.D
/-! MADE BY PROGRAM (witnessworld.py) out of the Statement's table words and the real class files: 11 classes; the members and pool entries that the words name. The judged class is class 1, her method 1. -/
namespace start1
open Jvm.ClassFile
def u (s : String) : CpInfo := .utf8 (stringToUtf16 s)
/-- a pool by its gaps: so many unusable entries, then the entry; so many at the end -/
def gap : Nat → List CpInfo → List CpInfo
  | 0, r => r
  | n + 1, r => .unusable :: gap n r
def poolList (es : List (Nat × CpInfo)) (last : Nat) : List CpInfo := es.foldr (fun e r => gap e.1 (e.2 :: r)) (gap last [])
def pool (es : List (Nat × CpInfo)) (last : Nat) : Array CpInfo := ⟨poolList es last⟩
def fileOf (pool : Array CpInfo) (this : Nat) (attrs : Array Attribute := #[]) (ms : Array MethodInfo := #[]) (fl : Nat := 33) (sup : Nat := 0) (ifs : Array Nat := #[]) (fds : Array FieldInfo := #[]) : ClassFile where
  minorVersion := 0
  majorVersion := 65
  constantPool := pool
  accessFlags := fl
  thisClass := this
  superClass := sup
  interfaces := ifs
  fields := fds
  methods := ms
  attributes := attrs
def plain (name : String) (sup : Option ClassId) : Class where
  name := name
  kind := .ordinary
  loader := none
  accessFlags := 33
  super := sup
  interfaces := #[]
  cf := none
  fields := #[]
  methods := #[]
  instanceTypes := #[]
  staticTypes := #[]
  resolved := #[]
  callSites := []
  init := .initialized
  statics := none
  mirror := none

def pool0 : Array CpInfo := pool [(5, u "<init>"), (0, u "()V"), (1, .class_ 10), (1, u "java/lang/Object"), (85, u "clone"), (0, u "()Ljava/lang/Object;")] 26

def k0c0 : Code := { maxStack := 0, maxLocals := 1, code := object_method_1_code, exceptionTable := #[], attributes := #[] }
def k0m0 : Method := { name := "<init>", desc := "()V", sig := { parameters := [], returnType := none }, accessFlags := 1, code := some k0c0 }
def k0m1 : Method := { name := "clone", desc := "()Ljava/lang/Object;", sig := { parameters := [], returnType := some (.object "java/lang/Object") }, accessFlags := 260, code := none }
/-- java/lang/Object -/
def k0 : Class := { plain "java/lang/Object" none with
  accessFlags := 33
  interfaces := #[]
  cf := some (fileOf pool0 8 #[] #[{ accessFlags := 1, nameIndex := 5, descriptorIndex := 6, attributes := #[] }, { accessFlags := 260, nameIndex := 96, descriptorIndex := 97, attributes := #[] }] 33 0 #[] #[])
  fields := #[]
  methods := #[k0m0, k0m1]
  instanceTypes := #[]
  staticTypes := #[]
  resolved := Array.replicate 124 none
  statics := none }

def pool1 : Array CpInfo := pool [(2, .class_ 4), (1, u "java/lang/Object"), (0, u "<init>"), (0, u "()V"), (0, .methodref 8 9), (0, .class_ 10), (0, .nameAndType 11 12), (0, u "com/example/pathweave/pathweave/core/PairIndexLargestTwoPinLaw"), (0, u "size"), (0, u "(IZ)I"), (0, .methodref 8 14), (0, .nameAndType 15 16), (0, u "make"), (0, u "(I[I)[I"), (0, .class_ 18), (0, u "com/example/pathweave/pathweave/core/PairIndex"), (0, .methodref 17 20), (0, .nameAndType 5 21), (0, u "([I)V"), (0, .methodref 17 23), (0, .nameAndType 24 25), (0, u "largestTwo"), (0, u "()[I"), (0, .methodref 8 27), (0, .nameAndType 28 29), (0, u "ok"), (0, u "([IIIII)Z"), (2, u "law"), (0, u "(IIIIII)Z")] 5

def k1m0 : Method := { name := "<init>", desc := "()V", sig := { parameters := [], returnType := none }, accessFlags := 2, code := none }
def k1c1 : Code := { maxStack := 5, maxLocals := 14, code := code, exceptionTable := #[], attributes := #[] }
def k1m1 : Method := { name := "law", desc := "(IIIIII)Z", sig := { parameters := [.int, .int, .int, .int, .int, .int], returnType := some .boolean }, accessFlags := 9, code := some k1c1 }
def k1c2 : Code := { maxStack := 2, maxLocals := 2, code := method_3_code, exceptionTable := #[], attributes := #[] }
def k1m2 : Method := { name := "size", desc := "(IZ)I", sig := { parameters := [.int, .boolean], returnType := some .int }, accessFlags := 10, code := some k1c2 }
def k1c3 : Code := { maxStack := 5, maxLocals := 2, code := method_4_code, exceptionTable := #[], attributes := #[] }
def k1m3 : Method := { name := "make", desc := "(I[I)[I", sig := { parameters := [.int, (.array .int)], returnType := some (.array .int) }, accessFlags := 10, code := some k1c3 }
def k1c4 : Code := { maxStack := 3, maxLocals := 6, code := method_5_code, exceptionTable := #[], attributes := #[] }
def k1m4 : Method := { name := "ok", desc := "([IIIII)Z", sig := { parameters := [(.array .int), .int, .int, .int, .int], returnType := some .boolean }, accessFlags := 10, code := some k1c4 }
/-- com/example/pathweave/pathweave/core/PairIndexLargestTwoPinLaw -/
def k1 : Class := { plain "com/example/pathweave/pathweave/core/PairIndexLargestTwoPinLaw" (some 0) with
  accessFlags := 49
  interfaces := #[]
  cf := some (fileOf pool1 8 #[] #[{ accessFlags := 2, nameIndex := 5, descriptorIndex := 6, attributes := #[] }, { accessFlags := 9, nameIndex := 32, descriptorIndex := 33, attributes := #[] }, { accessFlags := 10, nameIndex := 11, descriptorIndex := 12, attributes := #[] }, { accessFlags := 10, nameIndex := 15, descriptorIndex := 16, attributes := #[] }, { accessFlags := 10, nameIndex := 28, descriptorIndex := 29, attributes := #[] }] 49 2 #[] #[])
  fields := #[]
  methods := #[k1m0, k1m1, k1m2, k1m3, k1m4]
  instanceTypes := #[]
  staticTypes := #[]
  resolved := Array.replicate 39 none
  statics := none }

def pool2 : Array CpInfo := pool [(1, .methodref 2 3), (0, .class_ 4), (0, .nameAndType 5 6), (0, u "java/lang/Object"), (0, u "<init>"), (0, u "()V"), (0, .methodref 8 9), (0, .class_ 10), (0, .nameAndType 11 12), (0, u "com/example/pathweave/pathweave/core/Pairwise"), (0, u "pairCount"), (0, u "([I)J"), (0, .long 10000000), (10, .methodref 25 26), (0, .class_ 27), (0, .nameAndType 28 29), (0, u "[I"), (0, u "clone"), (0, u "()Ljava/lang/Object;"), (0, .fieldref 31 32), (0, .class_ 33), (0, .nameAndType 34 27), (0, u "com/example/pathweave/pathweave/core/PairIndex"), (0, u "sizes"), (0, .fieldref 31 36), (0, .nameAndType 37 27), (0, u "sizesBefore"), (0, .fieldref 31 39), (0, .nameAndType 40 27), (0, u "rowStart"), (0, .fieldref 31 42), (0, .nameAndType 43 44), (0, u "count"), (0, u "I"), (2, u "largestTwo"), (0, u "()[I"), (1, .class_ 52), (1, u "com/example/pathweave/pathweave/core/PairIndex$Layout"), (15, u "([I)V")] 35

def k2c0 : Code := { maxStack := 7, maxLocals := 5, code := prog_16_method_1_code, exceptionTable := #[], attributes := #[] }
def k2m0 : Method := { name := "<init>", desc := "([I)V", sig := { parameters := [(.array .int)], returnType := none }, accessFlags := 0, code := some k2c0 }
def k2c1 : Code := { maxStack := 4, maxLocals := 4, code := prog_16_method_5_code, exceptionTable := #[], attributes := #[] }
def k2m1 : Method := { name := "largestTwo", desc := "()[I", sig := { parameters := [], returnType := some (.array .int) }, accessFlags := 0, code := some k2c1 }
/-- com/example/pathweave/pathweave/core/PairIndex -/
def k2 : Class := { plain "com/example/pathweave/pathweave/core/PairIndex" (some 0) with
  accessFlags := 48
  interfaces := #[]
  cf := some (fileOf pool2 31 #[.nestMembers #[50]] #[{ accessFlags := 0, nameIndex := 5, descriptorIndex := 68, attributes := #[] }, { accessFlags := 0, nameIndex := 47, descriptorIndex := 48, attributes := #[] }] 48 2 #[] #[{ accessFlags := 18, nameIndex := 34, descriptorIndex := 27, attributes := #[] }, { accessFlags := 18, nameIndex := 37, descriptorIndex := 27, attributes := #[] }, { accessFlags := 18, nameIndex := 40, descriptorIndex := 27, attributes := #[] }, { accessFlags := 18, nameIndex := 43, descriptorIndex := 44, attributes := #[] }])
  fields := #[{ name := "sizes", type := (.array .int), accessFlags := 18, slot := 0, constantValue := 0 }, { name := "sizesBefore", type := (.array .int), accessFlags := 18, slot := 1, constantValue := 0 }, { name := "rowStart", type := (.array .int), accessFlags := 18, slot := 2, constantValue := 0 }, { name := "count", type := .int, accessFlags := 18, slot := 3, constantValue := 0 }]
  methods := #[k2m0, k2m1]
  instanceTypes := #[(.array .int), (.array .int), (.array .int), .int]
  staticTypes := #[]
  resolved := Array.replicate 104 none
  statics := none }

def pool3 : Array CpInfo := pool [(2, .class_ 4), (1, u "java/lang/Object"), (0, u "<init>"), (0, u "()V"), (0, .methodref 8 9), (0, .class_ 10), (0, .nameAndType 11 12), (0, u "java/lang/Math"), (0, u "multiplyExact"), (0, u "(JI)J"), (0, .methodref 8 14), (0, .nameAndType 15 16), (0, u "addExact"), (0, u "(JJ)J"), (4, .long 9223372036854775807), (60, .class_ 83), (0, u "com/example/pathweave/pathweave/core/Pairwise"), (0, u "DEFAULT_SEED"), (0, u "I"), (2, u "MAX_PAIRS"), (0, u "J"), (4, u "pairCount"), (0, u "([I)J")] 37

def k3m0 : Method := { name := "<init>", desc := "()V", sig := { parameters := [], returnType := none }, accessFlags := 2, code := none }
def k3c1 : Code := { maxStack := 5, maxLocals := 10, code := prog_19_method_2_code, exceptionTable := #[{ startPc := 29, endPc := 40, handlerPc := 43, catchType := 17 }], attributes := #[] }
def k3m1 : Method := { name := "pairCount", desc := "([I)J", sig := { parameters := [(.array .int)], returnType := some .long }, accessFlags := 9, code := some k3c1 }
/-- com/example/pathweave/pathweave/core/Pairwise -/
def k3 : Class := { plain "com/example/pathweave/pathweave/core/Pairwise" (some 0) with
  accessFlags := 49
  interfaces := #[]
  cf := some (fileOf pool3 82 #[] #[{ accessFlags := 2, nameIndex := 5, descriptorIndex := 6, attributes := #[] }, { accessFlags := 9, nameIndex := 94, descriptorIndex := 95, attributes := #[] }] 49 2 #[] #[{ accessFlags := 25, nameIndex := 84, descriptorIndex := 85, attributes := #[] }, { accessFlags := 25, nameIndex := 88, descriptorIndex := 89, attributes := #[] }])
  fields := #[{ name := "DEFAULT_SEED", type := .int, accessFlags := 25, slot := 0, constantValue := 0 }, { name := "MAX_PAIRS", type := .long, accessFlags := 25, slot := 1, constantValue := 0 }]
  methods := #[k3m0, k3m1]
  instanceTypes := #[]
  staticTypes := #[.int, .long]
  resolved := Array.replicate 133 none
  statics := none }

def pool4 : Array CpInfo := pool [(1, .class_ 2), (0, u "java/lang/Math"), (1, .class_ 6), (1, u "java/lang/Object"), (0, u "<init>"), (0, u "()V"), (89, .class_ 100), (1, u "java/lang/Math$RandomNumberGeneratorHolder"), (17, .methodref 1 119), (0, .nameAndType 120 121), (0, u "multiplyExact"), (0, u "(JJ)J"), (0, .methodref 1 123), (0, .nameAndType 124 125), (0, u "abs"), (0, u "(J)J"), (46, u "negativeZeroFloatBits"), (0, u "J"), (2, u "negativeZeroDoubleBits"), (68, u "$assertionsDisabled"), (0, u "Z"), (91, u "twoToTheDoubleScaleDown"), (0, u "D"), (4, u "twoToTheDoubleScaleUp"), (9, u "E"), (3, u "PI"), (2, u "TAU"), (2, u "DEGREES_TO_RADIANS"), (0, u "RADIANS_TO_DEGREES"), (27, u "addExact"), (1, u "(JI)J")] 64

def k4m0 : Method := { name := "<init>", desc := "()V", sig := { parameters := [], returnType := none }, accessFlags := 2, code := none }
def k4c1 : Code := { maxStack := 6, maxLocals := 6, code := jdk_29_method_25_code, exceptionTable := #[], attributes := #[] }
def k4m1 : Method := { name := "addExact", desc := "(JJ)J", sig := { parameters := [.long, .long], returnType := some .long }, accessFlags := 9, code := some k4c1 }
def k4c2 : Code := { maxStack := 4, maxLocals := 3, code := jdk_29_method_29_code, exceptionTable := #[], attributes := #[] }
def k4m2 : Method := { name := "multiplyExact", desc := "(JI)J", sig := { parameters := [.long, .int], returnType := some .long }, accessFlags := 9, code := some k4c2 }
def k4c3 : Code := { maxStack := 4, maxLocals := 10, code := jdk_29_method_30_code, exceptionTable := #[], attributes := #[] }
def k4m3 : Method := { name := "multiplyExact", desc := "(JJ)J", sig := { parameters := [.long, .long], returnType := some .long }, accessFlags := 9, code := some k4c3 }
def k4c4 : Code := { maxStack := 4, maxLocals := 2, code := jdk_29_method_61_code, exceptionTable := #[], attributes := #[] }
def k4m4 : Method := { name := "abs", desc := "(J)J", sig := { parameters := [.long], returnType := some .long }, accessFlags := 9, code := some k4c4 }
/-- java/lang/Math -/
def k4 : Class := { plain "java/lang/Math" (some 0) with
  accessFlags := 49
  interfaces := #[]
  cf := some (fileOf pool4 1 #[.nestMembers #[98]] #[{ accessFlags := 2, nameIndex := 7, descriptorIndex := 8, attributes := #[] }, { accessFlags := 9, nameIndex := 393, descriptorIndex := 121, attributes := #[] }, { accessFlags := 9, nameIndex := 120, descriptorIndex := 395, attributes := #[] }, { accessFlags := 9, nameIndex := 120, descriptorIndex := 121, attributes := #[] }, { accessFlags := 9, nameIndex := 124, descriptorIndex := 125, attributes := #[] }] 49 4 #[] #[{ accessFlags := 25, nameIndex := 354, descriptorIndex := 339, attributes := #[] }, { accessFlags := 25, nameIndex := 358, descriptorIndex := 339, attributes := #[] }, { accessFlags := 25, nameIndex := 361, descriptorIndex := 339, attributes := #[] }, { accessFlags := 26, nameIndex := 364, descriptorIndex := 339, attributes := #[] }, { accessFlags := 26, nameIndex := 365, descriptorIndex := 339, attributes := #[] }, { accessFlags := 26, nameIndex := 172, descriptorIndex := 173, attributes := #[] }, { accessFlags := 26, nameIndex := 176, descriptorIndex := 173, attributes := #[] }, { accessFlags := 8, nameIndex := 344, descriptorIndex := 339, attributes := #[] }, { accessFlags := 8, nameIndex := 338, descriptorIndex := 339, attributes := #[] }, { accessFlags := 4120, nameIndex := 245, descriptorIndex := 246, attributes := #[] }])
  fields := #[{ name := "E", type := .double, accessFlags := 25, slot := 0, constantValue := 0 }, { name := "PI", type := .double, accessFlags := 25, slot := 1, constantValue := 0 }, { name := "TAU", type := .double, accessFlags := 25, slot := 2, constantValue := 0 }, { name := "DEGREES_TO_RADIANS", type := .double, accessFlags := 26, slot := 3, constantValue := 0 }, { name := "RADIANS_TO_DEGREES", type := .double, accessFlags := 26, slot := 4, constantValue := 0 }, { name := "negativeZeroFloatBits", type := .long, accessFlags := 26, slot := 5, constantValue := 0 }, { name := "negativeZeroDoubleBits", type := .long, accessFlags := 26, slot := 6, constantValue := 0 }, { name := "twoToTheDoubleScaleUp", type := .double, accessFlags := 8, slot := 7, constantValue := 0 }, { name := "twoToTheDoubleScaleDown", type := .double, accessFlags := 8, slot := 8, constantValue := 0 }, { name := "$assertionsDisabled", type := .boolean, accessFlags := 4120, slot := 9, constantValue := 0 }]
  methods := #[k4m0, k4m1, k4m2, k4m3, k4m4]
  instanceTypes := #[]
  staticTypes := #[.double, .double, .double, .double, .double, .long, .long, .double, .double, .boolean]
  resolved := Array.replicate 460 none
  statics := none }

def pool5 : Array CpInfo := pool [(1, .class_ 2), (0, u "java/lang/Cloneable"), (0, .class_ 4), (0, u "java/lang/Object")] 2

/-- java/lang/Cloneable -/
def k5 : Class := { plain "java/lang/Cloneable" (some 0) with
  accessFlags := 1537
  interfaces := #[]
  cf := some (fileOf pool5 1 #[] #[] 1537 3 #[] #[])
  fields := #[]
  methods := #[]
  instanceTypes := #[]
  staticTypes := #[]
  resolved := Array.replicate 7 none
  statics := none }

def pool6 : Array CpInfo := pool [(1, u "java/io/Serializable"), (0, .class_ 1), (0, u "java/lang/Object"), (0, .class_ 3)] 3

/-- java/io/Serializable -/
def k6 : Class := { plain "java/io/Serializable" (some 0) with
  accessFlags := 1537
  interfaces := #[]
  cf := some (fileOf pool6 2 #[] #[] 1537 4 #[] #[])
  fields := #[]
  methods := #[]
  instanceTypes := #[]
  staticTypes := #[]
  resolved := Array.replicate 8 none
  statics := none }

/-- the primitive byte -/
def k7 : Class := { plain "byte" none with kind := .primitive 'B', accessFlags := 0x411 }
/-- [B -/
def k8 : Class := { plain "[B" (some 0) with kind := .array 7 .byte, interfaces := #[5, 6], accessFlags := 1041 }

/-- the primitive int -/
def k9 : Class := { plain "int" none with kind := .primitive 'I', accessFlags := 0x411 }
/-- [I -/
def k10 : Class := { plain "[I" (some 0) with kind := .array 9 .int, interfaces := #[5, 6], accessFlags := 1041 }

def heap : Heap := #[]
def classes : Array Class := #[k0, k1, k2, k3, k4, k5, k6, k7, k8, k9, k10]
def interned : List (Array UInt16 × Addr) := []
def slotsUsed : Nat := 0
def theMethod : MethodId := ⟨1, 1⟩
def args0 : Array Value := #[.int 5, .int 5, .int 5, .int 5, .int 5, .int 5]
def aboutOver (below : List Frame) : State where
  vm := { classes := classes, interned := interned.toArray }
  heap := heap
  slotsUsed := slotsUsed
  threads := #[{ frames := .invoking theMethod args0 :: below }]
def below0 : List Frame := [.native { method := ⟨0, 0⟩, args := #[] }]
def about1 : State := aboutOver below0
def p0 : Program := .bare "" "" ""
def e0 : Env := launch0.env 0 0 0
theorem w_frames : about1.frames = Frame.invoking theMethod args0 :: below0 := rfl
set_option maxRecDepth 65536 in
theorem w_args : argsFit about1.vm theMethod args0 = true := by decide +kernel
set_option maxRecDepth 65536 in
theorem w_heap : heapFits about1 = true := by decide +kernel
set_option maxRecDepth 65536 in
theorem w_runnable : about1.curStatus? = some .runnable := by decide +kernel
set_option maxRecDepth 65536 in
theorem w_alone : about1.alone = true := by decide +kernel
set_option maxRecDepth 65536 in
theorem w_named : about1.methodNamed? x = some theMethod := by decide +kernel
set_option maxRecDepth 65536 in
theorem w_hears : about1.hears theMethod below0 = true := by decide +kernel
set_option maxRecDepth 65536 in
theorem w_ripe : about1.ripe theMethod args0 below0 = true := by decide +kernel
theorem w_running : about1.status = .running := rfl
set_option maxRecDepth 65536 in
theorem w_room : about1.hasRoom e0.platform room_1 = true :=
  launch0.hasRoom_least _ room_1 (by decide +kernel) (by decide +kernel) (by decide +kernel) (by decide +kernel) (by decide +kernel) (by decide +kernel)
theorem allAtoms_all (ts : List Jvm.Cond) (a : Array Jvm.Value) (st : Jvm.State) : (allAtoms ts).before a st = ts.all (fun c => c.before a st) := by
  induction ts with
  | nil => rfl
  | cons c t ih =>
    show (Jvm.Cond.and c (allAtoms t)).before a st = _
    rw [Jvm.Cond.before_and, ih, List.all_cons]
def words1 : List Jvm.Cond := Jvm.Cond.code x code maxLocals ret :: tables_1
/-- a 'code' word, met by the world's own term for the bytes: nothing is compared byte by byte -/
theorem code_word {y : MethodName} {bytes : ByteArray} {mx : Nat} {rt : Option FieldType} {a : Array Value} {s : State} {m : MethodId} {meth : Method} {c : Code} (h1 : s.methodNamed? y = some m) (h2 : s.vm.method? m = some meth) (h3 : meth.code = some c) (h4 : c.code = bytes)
    (h5 : (c.maxLocals == mx && c.exceptionTable.isEmpty && decide (c.maxStack ≤ mostOperands) && decide (meth.sig.returnType = rt) && !meth.locks && decide (parseMethodDescriptor y.desc = some meth.sig)) = true) : (Jvm.Cond.code y bytes mx rt).before a s = true := by
  simp only [Bool.and_eq_true, beq_iff_eq, Bool.not_eq_true', decide_eq_true_eq] at h5
  obtain ⟨⟨⟨⟨⟨g1, g2⟩, g3⟩, g4⟩, g5⟩, g6⟩ := h5
  simp [Cond.before, Cond.holds, Cond.value, h1, h2, h3, h4, g1, g2, g3, g4, g5, g6]
def isCode : Jvm.Cond → Bool
  | .code _ _ _ _ => true
  | _ => false
theorem all_split {L : List Jvm.Cond} {P : Jvm.Cond → Bool} (h1 : L.all (fun c => isCode c || P c) = true) (h2 : ∀ c ∈ L.filter isCode, P c = true) : L.all P = true := by
  refine List.all_eq_true.mpr fun c hc => ?_
  have h := List.all_eq_true.mp h1 c hc
  rcases Bool.eq_false_or_eq_true (isCode c) with hi | hi
  · exact h2 c (List.mem_filter.mpr ⟨hc, hi⟩)
  · simpa [hi] using h
set_option maxRecDepth 65536 in
theorem w_c0 : (Jvm.Cond.code x code maxLocals ret).before args0 about1 = true := code_word (m := ⟨1, 1⟩) (meth := k1m1) (c := k1c1) (by decide +kernel) rfl rfl rfl (by decide +kernel)
set_option maxRecDepth 65536 in
theorem w_c1 : (Jvm.Cond.code ({ cls := "com/example/pathweave/pathweave/core/PairIndexLargestTwoPinLaw", name := "size", desc := "(IZ)I" } : Jvm.MethodName) method_3_code (2 : Nat) (Option.some Jvm.ClassFile.FieldType.int)).before args0 about1 = true := code_word (m := ⟨1, 2⟩) (meth := k1m2) (c := k1c2) (by decide +kernel) rfl rfl rfl (by decide +kernel)
set_option maxRecDepth 65536 in
theorem w_c2 : (Jvm.Cond.code ({ cls := "com/example/pathweave/pathweave/core/PairIndexLargestTwoPinLaw", name := "make", desc := "(I[I)[I" } : Jvm.MethodName) method_4_code (2 : Nat) (Option.some (Jvm.ClassFile.FieldType.array Jvm.ClassFile.FieldType.int))).before args0 about1 = true := code_word (m := ⟨1, 3⟩) (meth := k1m3) (c := k1c3) (by decide +kernel) rfl rfl rfl (by decide +kernel)
set_option maxRecDepth 65536 in
theorem w_c3 : (Jvm.Cond.code ({ cls := "com/example/pathweave/pathweave/core/PairIndex", name := "<init>", desc := "([I)V" } : Jvm.MethodName) prog_16_method_1_code (5 : Nat) (Option.none : Option Jvm.ClassFile.FieldType)).before args0 about1 = true := code_word (m := ⟨2, 0⟩) (meth := k2m0) (c := k2c0) (by decide +kernel) rfl rfl rfl (by decide +kernel)
set_option maxRecDepth 65536 in
theorem w_c4 : (Jvm.Cond.code ({ cls := "java/lang/Object", name := "<init>", desc := "()V" } : Jvm.MethodName) object_method_1_code (1 : Nat) (Option.none : Option Jvm.ClassFile.FieldType)).before args0 about1 = true := code_word (m := ⟨0, 0⟩) (meth := k0m0) (c := k0c0) (by decide +kernel) rfl rfl rfl (by decide +kernel)
set_option maxRecDepth 65536 in
theorem w_c5 : (Jvm.Cond.code ({ cls := "java/lang/Math", name := "multiplyExact", desc := "(JI)J" } : Jvm.MethodName) jdk_29_method_29_code (3 : Nat) (Option.some Jvm.ClassFile.FieldType.long)).before args0 about1 = true := code_word (m := ⟨4, 2⟩) (meth := k4m2) (c := k4c2) (by decide +kernel) rfl rfl rfl (by decide +kernel)
set_option maxRecDepth 65536 in
theorem w_c6 : (Jvm.Cond.code ({ cls := "java/lang/Math", name := "multiplyExact", desc := "(JJ)J" } : Jvm.MethodName) jdk_29_method_30_code (10 : Nat) (Option.some Jvm.ClassFile.FieldType.long)).before args0 about1 = true := code_word (m := ⟨4, 3⟩) (meth := k4m3) (c := k4c3) (by decide +kernel) rfl rfl rfl (by decide +kernel)
set_option maxRecDepth 65536 in
theorem w_c7 : (Jvm.Cond.code ({ cls := "java/lang/Math", name := "abs", desc := "(J)J" } : Jvm.MethodName) jdk_29_method_61_code (2 : Nat) (Option.some Jvm.ClassFile.FieldType.long)).before args0 about1 = true := code_word (m := ⟨4, 4⟩) (meth := k4m4) (c := k4c4) (by decide +kernel) rfl rfl rfl (by decide +kernel)
set_option maxRecDepth 65536 in
theorem w_c8 : (Jvm.Cond.code ({ cls := "java/lang/Math", name := "addExact", desc := "(JJ)J" } : Jvm.MethodName) jdk_29_method_25_code (6 : Nat) (Option.some Jvm.ClassFile.FieldType.long)).before args0 about1 = true := code_word (m := ⟨4, 1⟩) (meth := k4m1) (c := k4c1) (by decide +kernel) rfl rfl rfl (by decide +kernel)
set_option maxRecDepth 65536 in
theorem w_c9 : (Jvm.Cond.code ({ cls := "com/example/pathweave/pathweave/core/PairIndex", name := "largestTwo", desc := "()[I" } : Jvm.MethodName) prog_16_method_5_code (4 : Nat) (Option.some (Jvm.ClassFile.FieldType.array Jvm.ClassFile.FieldType.int))).before args0 about1 = true := code_word (m := ⟨2, 1⟩) (meth := k2m1) (c := k2c1) (by decide +kernel) rfl rfl rfl (by decide +kernel)
set_option maxRecDepth 65536 in
theorem w_c10 : (Jvm.Cond.code ({ cls := "com/example/pathweave/pathweave/core/PairIndexLargestTwoPinLaw", name := "ok", desc := "([IIIII)Z" } : Jvm.MethodName) method_5_code (6 : Nat) (Option.some Jvm.ClassFile.FieldType.boolean)).before args0 about1 = true := code_word (m := ⟨1, 4⟩) (meth := k1m4) (c := k1c4) (by decide +kernel) rfl rfl rfl (by decide +kernel)
def codes1 : List Jvm.Cond := [Jvm.Cond.code x code maxLocals ret, Jvm.Cond.code ({ cls := "com/example/pathweave/pathweave/core/PairIndexLargestTwoPinLaw", name := "size", desc := "(IZ)I" } : Jvm.MethodName) method_3_code (2 : Nat) (Option.some Jvm.ClassFile.FieldType.int), Jvm.Cond.code ({ cls := "com/example/pathweave/pathweave/core/PairIndexLargestTwoPinLaw", name := "make", desc := "(I[I)[I" } : Jvm.MethodName) method_4_code (2 : Nat) (Option.some (Jvm.ClassFile.FieldType.array Jvm.ClassFile.FieldType.int)), Jvm.Cond.code ({ cls := "com/example/pathweave/pathweave/core/PairIndex", name := "<init>", desc := "([I)V" } : Jvm.MethodName) prog_16_method_1_code (5 : Nat) (Option.none : Option Jvm.ClassFile.FieldType), Jvm.Cond.code ({ cls := "java/lang/Object", name := "<init>", desc := "()V" } : Jvm.MethodName) object_method_1_code (1 : Nat) (Option.none : Option Jvm.ClassFile.FieldType), Jvm.Cond.code ({ cls := "java/lang/Math", name := "multiplyExact", desc := "(JI)J" } : Jvm.MethodName) jdk_29_method_29_code (3 : Nat) (Option.some Jvm.ClassFile.FieldType.long), Jvm.Cond.code ({ cls := "java/lang/Math", name := "multiplyExact", desc := "(JJ)J" } : Jvm.MethodName) jdk_29_method_30_code (10 : Nat) (Option.some Jvm.ClassFile.FieldType.long), Jvm.Cond.code ({ cls := "java/lang/Math", name := "abs", desc := "(J)J" } : Jvm.MethodName) jdk_29_method_61_code (2 : Nat) (Option.some Jvm.ClassFile.FieldType.long), Jvm.Cond.code ({ cls := "java/lang/Math", name := "addExact", desc := "(JJ)J" } : Jvm.MethodName) jdk_29_method_25_code (6 : Nat) (Option.some Jvm.ClassFile.FieldType.long), Jvm.Cond.code ({ cls := "com/example/pathweave/pathweave/core/PairIndex", name := "largestTwo", desc := "()[I" } : Jvm.MethodName) prog_16_method_5_code (4 : Nat) (Option.some (Jvm.ClassFile.FieldType.array Jvm.ClassFile.FieldType.int)), Jvm.Cond.code ({ cls := "com/example/pathweave/pathweave/core/PairIndexLargestTwoPinLaw", name := "ok", desc := "([IIIII)Z" } : Jvm.MethodName) method_5_code (6 : Nat) (Option.some Jvm.ClassFile.FieldType.boolean)]
set_option maxRecDepth 65536 in
theorem codes_eq : words1.filter isCode = codes1 := rfl
theorem w_codes : ∀ c ∈ words1.filter isCode, c.before args0 about1 = true := by
  rw [codes_eq]
  intro c hc
  simp only [codes1, List.mem_cons, List.not_mem_nil, or_false] at hc
  rcases hc with rfl | rfl | rfl | rfl | rfl | rfl | rfl | rfl | rfl | rfl | rfl
  · exact w_c0
  · exact w_c1
  · exact w_c2
  · exact w_c3
  · exact w_c4
  · exact w_c5
  · exact w_c6
  · exact w_c7
  · exact w_c8
  · exact w_c9
  · exact w_c10
set_option maxRecDepth 65536 in
theorem w_t1 : (words1.take 24).all (fun c => isCode c || c.before args0 about1) = true := by decide +kernel
set_option maxRecDepth 65536 in
theorem w_t2 : ((words1.drop 24).take 24).all (fun c => isCode c || c.before args0 about1) = true := by decide +kernel
set_option maxRecDepth 65536 in
theorem w_t3 : ((words1.drop 24).drop 24).all (fun c => isCode c || c.before args0 about1) = true := by decide +kernel
theorem w_tables : (allAtoms (Jvm.Cond.code x code maxLocals ret :: tables_1)).before args0 about1 = true := by
  rw [allAtoms_all]
  show words1.all (fun c => c.before args0 about1) = true
  refine all_split ?_ w_codes
  rw [← List.take_append_drop 24 words1, List.all_append, w_t1, ← List.take_append_drop 24 (words1.drop 24), List.all_append, w_t2, w_t3]
  rfl
set_option maxRecDepth 65536 in
theorem w_case : (Jvm.Cond.and given_1 narrow_1).before args0 about1 = true := by decide +kernel
theorem w_applies : (headSpec (Jvm.Cond.code x code maxLocals ret :: tables_1) room_1).applies x e0.platform about1 = true :=
  (Spec.applies_iff w_frames).mpr ⟨w_running, w_runnable, w_alone, w_named, w_hears, w_ripe, w_room, w_tables⟩
theorem atStart : AtStart classFile x code maxLocals ret World_1 tables_1 room_1 Calls_1 rest_1 Pre_1 launch0 p0 e0 about1 theMethod args0 below0 :=
  ⟨lists_1, trivial, launch0.admits_env _ _ _, launch0.least_env, fairChoices_fair.cas, fairChoices_fair.clock, w_frames, w_args, w_heap, w_applies, trivial, trivial, w_case⟩
end start1
theorem witness_1 : WitnessClaimed_1 := ⟨start1.p0, start1.e0, start1.about1, start1.theMethod, start1.args0, start1.below0, start1.atStart⟩
end Jvm.Pilot.@@N@@
