import JvmDerived
import JvmDerived.Pilot.@@N@@Statement
import JvmDerived.Pilot.@@N@@Code
set_option linter.unusedVariables false
set_option linter.unusedSimpArgs false

namespace Jvm.Pilot.@@N@@
open Jvm Jvm.ClassFile Sem Op Lib Jvm.Free Jvm.Stand Jvm.LawKit Jvm.RoadKit Bundle Jvm.Pilot.@@N@@.Jvm.D
/-! 1. the goal of a walk, and its steps -/
section OwnGoal
variable {p : Program} {l : Launch} {e : Env} {R : Room} {s : State} {m : MethodId} {args : Array Value} {below : List Frame} {meth : Method} {c : Code} {T : State} {locs : List Loc} {cells slots : Nat}
/-- from the state S the body returns, P holds of what it leaves, and the frame is kept -/
def Gl (p : Program) (e : Env) (below : List Frame) (s : State) (kc ks : Nat) (P : Option Value → Heap → List Loc → Prop) (S : State) : Prop :=
  ∃ t o, Steps p.tables e below S t ∧ t.status = .running ∧ Ended t below o ∧ ∃ v L, o = .returned v ∧ P v t.heap L ∧ FrameEnd s o t L kc ks
variable {kc ks : Nat} {P : Option Value → Heap → List Loc → Prop}
theorem Gl.on {A B : State} (h : ∀ t, Steps p.tables e below B t → Steps p.tables e below A t) (k : Gl p e below s kc ks P B) : Gl p e below s kc ks P A := by
  obtain ⟨t, o, h1, h2⟩ := k
  exact ⟨t, o, h t h1, h2⟩
theorem own_to {tb : Tables} {A B t : State} (q : A = B) (k : Steps tb e below B t) : Steps tb e below A t := q ▸ k
theorem Gl.out (X : Stand p l e R s m args below meth c T locs cells slots) (hx : p.tables.exec = Jvm.exec) (hlk : meth.locks = false) {pc : Nat} {Ls : Array Slot} {w : Value} {t : FieldType} {i : Instr} {rest : List Value} (hret : meth.sig.returnType = some t) (hn : narrow t w = w)
    (hi : (i = .ireturn ∧ (t = .int ∨ t = .boolean ∨ t = .byte ∨ t = .char ∨ t = .short) ∧ ∃ z, w = .int z) ∨ (i = .lreturn ∧ t = .long ∧ ∃ z, w = .long z) ∨ (i = .dreturn ∧ t = .double ∧ ∃ z, w = .double z) ∨ (i = .freturn ∧ t = .float ∧ ∃ z, w = .float z) ∨ (i = .areturn ∧ t.isReference = true ∧ w.isRef = true))
    (hd : decode c.code pc = .ok (i, 1)) (hP : P (some w) T.heap locs) (hc : cells ≤ kc) (hs : slots ≤ ks) : Gl p e below s kc ks P (T.setTop (mkF m pc Ls (w :: rest))) := by
  obtain ⟨fs, hr, hrun, hended, hW, hsame⟩ := X.leave (v := some w) (fun h => by rw [hret] at h; cases h) hlk
  exact ⟨_, _, retOut X hx hret hn hi hd hr, hrun, hended, _, _, rfl, hP, ⟨_, rfl⟩, hW, hsame.mono hc hs⟩
theorem Gl.outI (X : Stand p l e R s m args below meth c T locs cells slots) (hx : p.tables.exec = Jvm.exec) (hlk : meth.locks = false) {pc : Nat} {Ls : Array Slot} {z : Int32} {rest : List Value} (hret : meth.sig.returnType = some .int)
    (hd : decode c.code pc = .ok (.ireturn, 1)) (hP : P (some (.int z)) T.heap locs) (hc : cells ≤ kc) (hs : slots ≤ ks) : Gl p e below s kc ks P (T.setTop (mkF m pc Ls (.int z :: rest))) :=
  Gl.out X hx hlk hret rfl (Or.inl ⟨rfl, Or.inl rfl, z, rfl⟩) hd hP hc hs
theorem Gl.outJ (X : Stand p l e R s m args below meth c T locs cells slots) (hx : p.tables.exec = Jvm.exec) (hlk : meth.locks = false) {pc : Nat} {Ls : Array Slot} {z : Int64} {rest : List Value} (hret : meth.sig.returnType = some .long)
    (hd : decode c.code pc = .ok (.lreturn, 1)) (hP : P (some (.long z)) T.heap locs) (hc : cells ≤ kc) (hs : slots ≤ ks) : Gl p e below s kc ks P (T.setTop (mkF m pc Ls (.long z :: rest))) :=
  Gl.out X hx hlk hret rfl (Or.inr (Or.inl ⟨rfl, rfl, z, rfl⟩)) hd hP hc hs
theorem Gl.outR (X : Stand p l e R s m args below meth c T locs cells slots) (hx : p.tables.exec = Jvm.exec) (hlk : meth.locks = false) {pc : Nat} {Ls : Array Slot} {a : Addr} {t : FieldType} {rest : List Value} (hret : meth.sig.returnType = some t) (ht : t.isReference = true)
    (hd : decode c.code pc = .ok (.areturn, 1)) (hP : P (some (.ref a)) T.heap locs) (hc : cells ≤ kc) (hs : slots ≤ ks) : Gl p e below s kc ks P (T.setTop (mkF m pc Ls (.ref a :: rest))) :=
  Gl.out X hx hlk hret (by cases t <;> first | rfl | cases ht) (Or.inr (Or.inr (Or.inr (Or.inr ⟨rfl, ht, rfl⟩)))) hd hP hc hs
theorem Gl.outN (X : Stand p l e R s m args below meth c T locs cells slots) (hx : p.tables.exec = Jvm.exec) (hlk : meth.locks = false) {pc : Nat} {Ls : Array Slot} {z : Int32} {t : FieldType} {rest : List Value} (hret : meth.sig.returnType = some t) (ht : t = .boolean ∨ t = .byte ∨ t = .char ∨ t = .short)
    (hd : decode c.code pc = .ok (.ireturn, 1)) (hP : P (some (.int (nar t z))) T.heap locs) (hc : cells ≤ kc) (hs : slots ≤ ks) : Gl p e below s kc ks P (T.setTop (mkF m pc Ls (.int z :: rest))) := by
  obtain ⟨fs, hr, hrun, hended, hW, hsame⟩ := X.leave (v := some (.int (nar t z))) (fun h => by rw [hret] at h; cases h) hlk
  exact ⟨_, _, retN X hx hret ht hd hr, hrun, hended, _, _, rfl, hP, ⟨_, rfl⟩, hW, hsame.mono hc hs⟩
theorem Gl.outV (X : Stand p l e R s m args below meth c T locs cells slots) (hx : p.tables.exec = Jvm.exec) (hlk : meth.locks = false) {pc : Nat} {Ls : Array Slot} (hret : meth.sig.returnType = none)
    (hd : decode c.code pc = .ok (.return_, 1)) (hP : P none T.heap locs) (hc : cells ≤ kc) (hs : slots ≤ ks) : Gl p e below s kc ks P (T.setTop (mkF m pc Ls [])) := by
  obtain ⟨fs, hr, hrun, hended, hW, hsame⟩ := X.leave (v := none) (fun _ => rfl) hlk
  exact ⟨_, _, X.returnOut hx hret hd hr, hrun, hended, _, _, rfl, hP, ⟨_, rfl⟩, hW, hsame.mono hc hs⟩
end OwnGoal
/-- two slots: both empty, or a long -/
def Two (a b : Slot) : Prop := (a = .unset ∧ b = .unset) ∨ ∃ z : Int64, a = .val (.long z) ∧ b = .second
theorem own_inj {α β : Type} {a b : α} {c d : β} (h : some (a, c) = some (b, d)) : a = b ∧ c = d := by cases h; exact ⟨rfl, rfl⟩
theorem own_inj1 {α : Type} {a b : α} (h : some a = some b) : a = b := by cases h; rfl
def own_let {α β : Type} (a : α) (f : α → β) : β := f a
theorem own_letE {α β : Type} {a : α} {f : α → β} {b : β} (h : own_let a f = b) : ∃ x, a = x ∧ f x = b := ⟨a, rfl, h⟩
theorem own_bind {α β : Type} {o : Option α} {f : α → Option β} {b : β} (h : o.bind f = some b) : ∃ x, o = some x ∧ f x = some b := by
  cases o with
  | none => cases h
  | some x => exact ⟨x, rfl, h⟩
/-! 2. what the law has made: a list of objects, each with its kind and its values; a reference is a place in that list -/
abbrev Hp := List (Nat × List Value)
abbrev Kt := Nat → FieldType × List (String × String)
def sh (n0 : Nat) : Value → Value
  | .ref k => .ref (n0 + k)
  | v => v
def gV (D : Hp) (a t i : Nat) : Option Value := (D[a]?).bind fun ob => if ob.1 = t then ob.2[i]? else none
def asI : Value → Option Int32
  | .int x => some x
  | _ => none
def asJ : Value → Option Int64
  | .long x => some x
  | _ => none
def asR : Value → Option Nat
  | .ref x => some x
  | _ => none
def gI (D : Hp) (a t i : Nat) : Option Int32 := (gV D a t i).bind asI
def gJ (D : Hp) (a t i : Nat) : Option Int64 := (gV D a t i).bind asJ
def gR (D : Hp) (a t i : Nat) : Option Nat := (gV D a t i).bind asR
def ck (D : Hp) (a t : Nat) : Option Nat := (D[a]?).bind fun ob => if ob.1 = t then some t else none
def pV (D : Hp) (a t i : Nat) (v : Value) : Option Hp := (D[a]?).bind fun ob => if ob.1 = t then (if i < ob.2.length then some (D.set a (t, ob.2.set i v)) else none) else none
def rV (D : Hp) (a t : Nat) (j : Int32) : Option Value := (D[a]?).bind fun ob => if ob.1 = t then (if j < 0 then none else ob.2[j.toNatClampNeg]?) else none
def rI (D : Hp) (a t : Nat) (j : Int32) : Option Int32 := (rV D a t j).bind asI
def rJ (D : Hp) (a t : Nat) (j : Int32) : Option Int64 := (rV D a t j).bind asJ
def wV (D : Hp) (a t : Nat) (j : Int32) (v : Value) : Option Hp := (D[a]?).bind fun ob => if ob.1 = t then (if j < 0 then none else if j.toNatClampNeg < ob.2.length then some (D.set a (t, ob.2.set j.toNatClampNeg v)) else none) else none
def lA (D : Hp) (a t : Nat) : Option Int32 := (D[a]?).bind fun ob => if ob.1 = t then some ob.2.length.toInt32 else none
def nA (D : Hp) (t : Nat) (n : Int32) (cap : Nat) (z : Value) : Option Hp := if n < 0 then none else if n.toNatClampNeg ≤ cap then some (D ++ [(t, List.replicate n.toNatClampNeg z)]) else none
def cA' (D : Hp) (a t cap : Nat) : Option Hp := (D[a]?).bind fun ob => if ob.1 = t then (if ob.2.length ≤ cap then some (D ++ [(t, ob.2)]) else none) else none
def Ob1 (K : Kt) (Z : State) (h : Heap) (n0 a t : Nat) (vs : List Value) : Prop :=
  (∀ ty, (K t).1 = .array ty → Exa Z h a ("[" ++ ty.toString) ∧ ∃ c : Cell, Arr Z h a c ty ∧ c.slots = (vs.map (sh n0)).toArray ∧ vs.length < 2 ^ 31 ∧ ∀ v ∈ vs, fits ty v = true) ∧
  (∀ C, (K t).1 = .object C → Exa Z h a C ∧ ∀ (i : Nat) (f d : String), (K t).2[i]? = some (f, d) → ∃ v : Value, vs[i]? = some v ∧ Fld Z h a C f d (sh n0 v))
def Ow (K : Kt) (Z : State) (h : Heap) (n0 : Nat) (D : Hp) : Prop := h.size = n0 + D.length ∧ ∀ (k t : Nat) (vs : List Value), D[k]? = some (t, vs) → Ob1 K Z h n0 (n0 + k) t vs
def Lay (K : Kt) (Z : State) (a0 : Array Value) : Prop := ∀ t C, (K t).1 = .object C → (∀ q ∈ (K t).2, Laid Z a0 C C q.1 q.2 ∧ ∃ ty, parseFieldDescriptor q.2 = some ty) ∧ ((K t).2.map Prod.fst).Nodup
section OwnHeap
variable {K : Kt} {Z : State} {h h' : Heap} {n0 : Nat} {D D' : Hp} {a t i : Nat} {v : Value} {j : Int32} {C f d : String} {ty : FieldType}
theorem gV_e (hg : gV D a t i = some v) : ∃ vs, D[a]? = some (t, vs) ∧ vs[i]? = some v := by
  obtain ⟨⟨t', vs⟩, h1, h2⟩ := own_bind hg
  by_cases q : t' = t
  · subst q; rw [if_pos rfl] at h2; exact ⟨vs, h1, h2⟩
  · rw [if_neg q] at h2; cases h2
theorem gI_e {x : Int32} (hg : gI D a t i = some x) : gV D a t i = some (.int x) := by
  obtain ⟨w, h1, h2⟩ := own_bind hg
  cases w <;> cases h2; exact h1
theorem gJ_e {x : Int64} (hg : gJ D a t i = some x) : gV D a t i = some (.long x) := by
  obtain ⟨w, h1, h2⟩ := own_bind hg
  cases w <;> cases h2; exact h1
theorem gR_e {x : Nat} (hg : gR D a t i = some x) : gV D a t i = some (.ref x) := by
  obtain ⟨w, h1, h2⟩ := own_bind hg
  cases w <;> cases h2; exact h1
theorem ck_e {q : Nat} (hg : ck D a t = some q) : ∃ vs, D[a]? = some (t, vs) := by
  obtain ⟨⟨t', vs⟩, h1, h2⟩ := own_bind hg
  by_cases q : t' = t
  · subst q; exact ⟨vs, h1⟩
  · rw [if_neg q] at h2; cases h2
theorem rV_e (hg : rV D a t j = some v) : ∃ vs, D[a]? = some (t, vs) ∧ ¬ j < 0 ∧ vs[j.toNatClampNeg]? = some v := by
  obtain ⟨⟨t', vs⟩, h1, h2⟩ := own_bind hg
  by_cases q : t' = t
  · subst q; rw [if_pos rfl] at h2
    by_cases r : j < 0
    · rw [if_pos r] at h2; cases h2
    · rw [if_neg r] at h2; exact ⟨vs, h1, r, h2⟩
  · rw [if_neg q] at h2; cases h2
theorem rI_e {x : Int32} (hg : rI D a t j = some x) : rV D a t j = some (.int x) := by
  obtain ⟨w, h1, h2⟩ := own_bind hg
  cases w <;> cases h2; exact h1
theorem rJ_e {x : Int64} (hg : rJ D a t j = some x) : rV D a t j = some (.long x) := by
  obtain ⟨w, h1, h2⟩ := own_bind hg
  cases w <;> cases h2; exact h1
theorem wV_e (hg : wV D a t j v = some D') : ∃ vs, D[a]? = some (t, vs) ∧ ¬ j < 0 ∧ j.toNatClampNeg < vs.length ∧ D' = D.set a (t, vs.set j.toNatClampNeg v) := by
  obtain ⟨⟨t', vs⟩, h1, h2⟩ := own_bind hg
  by_cases q : t' = t
  · subst q; rw [if_pos rfl] at h2
    by_cases r : j < 0
    · rw [if_pos r] at h2; cases h2
    · rw [if_neg r] at h2
      by_cases u : j.toNatClampNeg < vs.length
      · rw [if_pos u] at h2; cases h2; exact ⟨vs, h1, r, u, rfl⟩
      · rw [if_neg u] at h2; cases h2
  · rw [if_neg q] at h2; cases h2
theorem pV_e (hg : pV D a t i v = some D') : ∃ vs, D[a]? = some (t, vs) ∧ i < vs.length ∧ D' = D.set a (t, vs.set i v) := by
  obtain ⟨⟨t', vs⟩, h1, h2⟩ := own_bind hg
  by_cases q : t' = t
  · subst q; rw [if_pos rfl] at h2
    by_cases u : i < vs.length
    · rw [if_pos u] at h2; cases h2; exact ⟨vs, h1, u, rfl⟩
    · rw [if_neg u] at h2; cases h2
  · rw [if_neg q] at h2; cases h2
theorem cA_e {cap : Nat} (hg : cA' D a t cap = some D') : ∃ vs, D[a]? = some (t, vs) ∧ vs.length ≤ cap ∧ D' = D ++ [(t, vs)] := by
  obtain ⟨⟨t', vs⟩, h1, h2⟩ := own_bind hg
  by_cases q : t' = t
  · subst q; rw [if_pos rfl] at h2
    by_cases u : vs.length ≤ cap
    · rw [if_pos u] at h2; cases h2; exact ⟨vs, h1, u, rfl⟩
    · rw [if_neg u] at h2; cases h2
  · rw [if_neg q] at h2; cases h2
theorem lA_e {x : Int32} (hg : lA D a t = some x) : ∃ vs, D[a]? = some (t, vs) ∧ x = vs.length.toInt32 := by
  obtain ⟨⟨t', vs⟩, h1, h2⟩ := own_bind hg
  by_cases q : t' = t
  · subst q; rw [if_pos rfl] at h2; cases h2; exact ⟨vs, h1, rfl⟩
  · rw [if_neg q] at h2; cases h2
theorem Ow.fld (O : Ow K Z h n0 D) (hg : gV D a t i = some v) (hK : (K t).1 = .object C) (hf : (K t).2[i]? = some (f, d)) : Fld Z h (n0 + a) C f d (sh n0 v) := by
  obtain ⟨vs, h1, h2⟩ := gV_e hg
  obtain ⟨w, h3, h4⟩ := ((O.2 a t vs h1).2 C hK).2 i f d hf
  cases h2.symm.trans h3; exact h4
theorem Ow.fld0 (O : Ow K Z h n0 D) (hg : pV D a t i v = some D') (hK : (K t).1 = .object C) (hf : (K t).2[i]? = some (f, d)) : ∃ w, Fld Z h (n0 + a) C f d w := by
  obtain ⟨vs, h1, h2, -⟩ := pV_e hg
  obtain ⟨w, h3, h4⟩ := ((O.2 a t vs h1).2 C hK).2 i f d hf
  exact ⟨_, h4⟩
theorem Ow.exa (O : Ow K Z h n0 D) {vs : List Value} (hg : D[a]? = some (t, vs)) (hK : (K t).1 = .object C) : Exa Z h (n0 + a) C := ((O.2 a t vs hg).2 C hK).1
theorem Ow.exaC (O : Ow K Z h n0 D) {q : Nat} (hg : ck D a t = some q) (hK : (K t).1 = .object C) : Exa Z h (n0 + a) C := by
  obtain ⟨vs, h1⟩ := ck_e hg; exact O.exa h1 hK
theorem Ow.exaP (O : Ow K Z h n0 D) (hg : pV D a t i v = some D') (hK : (K t).1 = .object C) : Exa Z h (n0 + a) C := by
  obtain ⟨vs, h1, -⟩ := pV_e hg; exact O.exa h1 hK
theorem sh_len (vs : List Value) : ((vs.map (sh n0)).toArray).size = vs.length := by simp
/-- the array at a, its cell, that the place j lies in it and what it holds -/
theorem Ow.arrR (O : Ow K Z h n0 D) (hg : rV D a t j = some v) (hK : (K t).1 = .array ty) : ∃ c : Cell, Arr Z h (n0 + a) c ty ∧ ¬ (j < 0 ∨ c.slots.size ≤ j.toNatClampNeg) ∧ c.slots[j.toNatClampNeg]? = some (sh n0 v) := by
  obtain ⟨vs, h1, h2, h3⟩ := rV_e hg
  obtain ⟨-, c, A, hs, -, -⟩ := (O.2 a t vs h1).1 ty hK
  have hlt := (List.getElem?_eq_some_iff.mp h3).1
  refine ⟨c, A, ?_, ?_⟩
  · rw [hs, sh_len]; intro q; rcases q with q | q
    · exact h2 q
    · omega
  · rw [hs]; simp [h3]
theorem Ow.arrL (O : Ow K Z h n0 D) {x : Int32} (hg : lA D a t = some x) (hK : (K t).1 = .array ty) : ∃ c : Cell, Arr Z h (n0 + a) c ty ∧ c.slots.size.toInt32 = x := by
  obtain ⟨vs, h1, h2⟩ := lA_e hg
  obtain ⟨-, c, A, hs, -, -⟩ := (O.2 a t vs h1).1 ty hK
  exact ⟨c, A, by rw [hs, sh_len, h2]⟩
theorem Ow.arrW (O : Ow K Z h n0 D) (hg : wV D a t j v = some D') (hK : (K t).1 = .array ty) : ∃ c : Cell, Arr Z h (n0 + a) c ty ∧ ¬ (j < 0 ∨ c.slots.size ≤ j.toNatClampNeg) := by
  obtain ⟨vs, h1, h2, h3, -⟩ := wV_e hg
  obtain ⟨-, c, A, hs, -, -⟩ := (O.2 a t vs h1).1 ty hK
  refine ⟨c, A, ?_⟩
  rw [hs, sh_len]; intro q; rcases q with q | q
  · exact h2 q
  · omega
theorem own_get_set {k : Nat} {ob ob' : Nat × List Value} (hk : (D.set a ob)[k]? = some ob') : (k = a ∧ ob' = ob ∧ a < D.length) ∨ (k ≠ a ∧ D[k]? = some ob') := by
  by_cases q : k = a
  · subst q
    rw [List.getElem?_set] at hk
    simp only [if_true] at hk
    by_cases r : k < D.length
    · rw [if_pos r] at hk; cases hk; exact Or.inl ⟨rfl, rfl, r⟩
    · rw [if_neg r] at hk; cases hk
  · rw [List.getElem?_set_ne (Ne.symm q)] at hk; exact Or.inr ⟨q, hk⟩
theorem Ob1.other {x y k : Nat} {vs : List Value} {w : Value} {sl : Nat} (B : Ob1 K Z h n0 x k vs) (W : Wr h h' y sl w) (hne : x ≠ y) : Ob1 K Z h' n0 x k vs := by
  refine ⟨fun ty hK => ?_, fun C hK => ?_⟩
  · obtain ⟨E, c, A, r⟩ := B.1 ty hK
    exact ⟨E.wr W, c, A.other W hne, r⟩
  · obtain ⟨E, F⟩ := B.2 C hK
    refine ⟨E.wr W, fun i f d hi => ?_⟩
    obtain ⟨v, h1, h2⟩ := F i f d hi
    exact ⟨v, h1, h2.other W (Or.inl hne)⟩
theorem Ow.st (O : Ow K Z h n0 D) (hg : wV D a t j v = some D') (hK : (K t).1 = .array ty) (hfit : fits ty v = true) (W : Wr h h' (n0 + a) j.toNatClampNeg (sh n0 v)) : Ow K Z h' n0 D' := by
  obtain ⟨vs, h1, h2, h3, rfl⟩ := wV_e hg
  refine ⟨by rw [W.size, O.1, List.length_set], fun k t' vs' hk => ?_⟩
  rcases own_get_set hk with ⟨rfl, e, -⟩ | ⟨hne, hk'⟩
  · cases e
    refine ⟨fun ty' hK' => ?_, fun C hK' => ?_⟩
    · cases hK.symm.trans hK'
      obtain ⟨E, c, A, hs, hl, hf⟩ := (O.2 _ _ vs h1).1 _ hK
      refine ⟨E.wr W, _, A.same W, ?_, by rw [List.length_set]; exact hl, fun w hw => ?_⟩
      · simp only [Cell.setSlot, hs]
        rw [List.map_set]
        simp
      · rcases List.mem_or_eq_of_mem_set hw with q | q
        · exact hf w q
        · rw [q]; exact hfit
    · rw [hK] at hK'; cases hK'
  · exact (O.2 k t' vs' hk').other W (by omega)
theorem Ow.put {a0 : Array Value} (O : Ow K Z h n0 D) (hL : Lay K Z a0) (hg : pV D a t i v = some D') (hK : (K t).1 = .object C) (hf : (K t).2[i]? = some (f, d)) (W : Wr h h' (n0 + a) (Jvm.RoadKit.slotOf Z C f d) (sh n0 v)) : Ow K Z h' n0 D' := by
  obtain ⟨vs, h1, h3, rfl⟩ := pV_e hg
  refine ⟨by rw [W.size, O.1, List.length_set], fun k t' vs' hk => ?_⟩
  rcases own_get_set hk with ⟨rfl, e, -⟩ | ⟨hne, hk'⟩
  · cases e
    refine ⟨fun ty' hK' => (by rw [hK] at hK'; cases hK'), fun C' hK' => ?_⟩
    cases hK.symm.trans hK'
    obtain ⟨E, F⟩ := (O.2 _ _ vs h1).2 _ hK
    refine ⟨E.wr W, fun i' f' d' hi' => ?_⟩
    obtain ⟨w, g1, g2⟩ := F i' f' d' hi'
    by_cases q : i' = i
    · subst q
      cases hf.symm.trans hi'
      exact ⟨v, by rw [List.getElem?_set]; simp [h3], g2.same W⟩
    · refine ⟨w, by rw [List.getElem?_set_ne (Ne.symm q)]; exact g1, g2.other W (Or.inr ?_)⟩
      obtain ⟨hl, hn⟩ := hL t C hK
      obtain ⟨l1, ty1, p1⟩ := hl _ (List.mem_of_getElem? hf)
      obtain ⟨l2, ty2, p2⟩ := hl _ (List.mem_of_getElem? hi')
      refine slot_ne l2 l1 (fun e => q ?_) p2 p1
      have m1 : ((K t).2.map Prod.fst)[i]? = some f := by rw [List.getElem?_map, hf]; rfl
      have m2 : ((K t).2.map Prod.fst)[i']? = some f' := by rw [List.getElem?_map, hi']; rfl
      obtain ⟨b1, c1⟩ := List.getElem?_eq_some_iff.mp m1
      obtain ⟨b2, c2⟩ := List.getElem?_eq_some_iff.mp m2
      exact (List.getElem_inj hn).mp (by rw [c1, c2]; exact e)
  · exact (O.2 k t' vs' hk').other W (by omega)
theorem Ob1.ext {x k : Nat} {vs : List Value} (B : Ob1 K Z h n0 x k vs) (E : Ext h h') : Ob1 K Z h' n0 x k vs := by
  refine ⟨fun ty hK => ?_, fun C hK => ?_⟩
  · obtain ⟨F, c, A, r⟩ := B.1 ty hK
    exact ⟨F.ext E, c, A.ext E, r⟩
  · obtain ⟨X, F⟩ := B.2 C hK
    refine ⟨X.ext E, fun i f d hi => ?_⟩
    obtain ⟨v, h1, h2⟩ := F i f d hi
    exact ⟨v, h1, h2.ext E⟩
theorem Ow.push {vs : List Value} (O : Ow K Z h n0 D) (E : Ext h h') (hsz : h'.size = h.size + 1) (B : Ob1 K Z h' n0 (n0 + D.length) t vs) : Ow K Z h' n0 (D ++ [(t, vs)]) := by
  refine ⟨by rw [hsz, O.1, List.length_append]; rfl, fun k t' vs' hk => ?_⟩
  by_cases q : k < D.length
  · rw [List.getElem?_append_left q] at hk; exact (O.2 k t' vs' hk).ext E
  · rw [List.getElem?_append_right (Nat.le_of_not_lt q)] at hk
    have e : k - D.length = 0 := by
      have := (List.getElem?_eq_some_iff.mp hk).1
      simp only [List.length_singleton] at this; omega
    rw [e] at hk
    have hk2 : (t, vs) = (t', vs') := Option.some.inj hk
    cases hk2
    have : k = D.length := by omega
    rw [this]; exact B
theorem sh_default (ty : FieldType) : sh n0 (defaultValue ty) = defaultValue ty := by cases ty <;> rfl
theorem own_ow0 (h : Heap) : Ow K Z h h.size [] := ⟨by simp, fun k t vs hk => by simp at hk⟩
end OwnHeap
/-! 3. the laws of the library, over that list -/
section OwnLaws
variable {p : Program} {l : Launch} {e : Env} {R : Room} {s : State} {m : MethodId} {args : Array Value} {below : List Frame} {meth : Method} {c : Code} {T : State} {locs : List Loc} {cells slots : Nat} {Z : State} {a0 : Array Value} {h : Heap} {K : Kt} {n0 : Nat} {D D' : Hp} {a t : Nat}
theorem ldW (X : Stand p l e R s m args below meth c T locs cells slots) (hx : p.tables.exec = Jvm.exec) (hZ : Z.Warmed39 s.vm) (eT : T.heap = h) (O : Ow K Z h n0 D) {j : Int32} {x : Int32} (hg : rI D a t j = some x) (hK : (K t).1 = .array .int)
    {g : JFrame} (hgm : g.method = m) {rest : List Value} (hs : g.stack = .int j :: .ref (n0 + a) :: rest) (hd : decode c.code g.pc = .ok (.iaload, 1)) (target : State)
    (hr : Steps p.tables e below (T.setTop { g with pc := g.pc + 1, stack := .int x :: rest }) target) : Steps p.tables e below (T.setTop g) target := by
  obtain ⟨cl, A, hin, hat⟩ := O.arrR (rI_e hg) hK
  exact X.iaload hx (v := .int x) (by rw [eT]; exact A.1) (State.isArrayOf_alike hZ.alike A.2.1) A.2.2 hin hat hgm hs hd target hr
theorem ldB (X : Stand p l e R s m args below meth c T locs cells slots) (hx : p.tables.exec = Jvm.exec) (hZ : Z.Warmed39 s.vm) (eT : T.heap = h) (O : Ow K Z h n0 D) {j : Int32} {x : Int32} (hg : rI D a t j = some x) (hK : (K t).1 = .array .byte)
    {g : JFrame} (hgm : g.method = m) {rest : List Value} (hs : g.stack = .int j :: .ref (n0 + a) :: rest) (hd : decode c.code g.pc = .ok (.baload, 1)) (target : State)
    (hr : Steps p.tables e below (T.setTop { g with pc := g.pc + 1, stack := .int x :: rest }) target) : Steps p.tables e below (T.setTop g) target := by
  obtain ⟨cl, A, hin, hat⟩ := O.arrR (rI_e hg) hK
  exact X.baloadBytes hx (v := .int x) (by rw [eT]; exact A.1) (State.isArrayOf_alike hZ.alike A.2.1) A.2.2 hin hat hgm hs hd target hr
theorem ldJ (X : Stand p l e R s m args below meth c T locs cells slots) (hx : p.tables.exec = Jvm.exec) (hZ : Z.Warmed39 s.vm) (eT : T.heap = h) (O : Ow K Z h n0 D) {j : Int32} {x : Int64} (hg : rJ D a t j = some x) (hK : (K t).1 = .array .long)
    {g : JFrame} (hgm : g.method = m) {rest : List Value} (hs : g.stack = .int j :: .ref (n0 + a) :: rest) (hd : decode c.code g.pc = .ok (.laload, 1)) (target : State)
    (hr : Steps p.tables e below (T.setTop { g with pc := g.pc + 1, stack := .long x :: rest }) target) : Steps p.tables e below (T.setTop g) target := by
  obtain ⟨cl, A, hin, hat⟩ := O.arrR (rJ_e hg) hK
  exact X.laload hx (v := .long x) (by rw [eT]; exact A.1) (State.isArrayOf_alike hZ.alike A.2.1) A.2.2 hin hat hgm hs hd target hr
theorem lenW' (X : Stand p l e R s m args below meth c T locs cells slots) (hx : p.tables.exec = Jvm.exec) (hZ : Z.Warmed39 s.vm) (eT : T.heap = h) (O : Ow K Z h n0 D) {x : Int32} (hg : lA D a t = some x) {ty : FieldType} (hK : (K t).1 = .array ty)
    {g : JFrame} (hgm : g.method = m) {rest : List Value} (hs : g.stack = .ref (n0 + a) :: rest) (hd : decode c.code g.pc = .ok (.arraylength, 1)) (target : State)
    (hr : Steps p.tables e below (T.setTop { g with pc := g.pc + 1, stack := .int x :: rest }) target) : Steps p.tables e below (T.setTop g) target := by
  obtain ⟨cl, A, hl⟩ := O.arrL hg hK
  subst hl
  exact X.arraylength hx (by rw [eT]; exact A.1) (State.isArrayOf_alike hZ.alike A.2.1) hgm hs hd target hr
theorem stIW (X : Stand p l e R s m args below meth c T locs cells slots) (hx : p.tables.exec = Jvm.exec) (hZ : Z.Warmed39 s.vm) (eT : T.heap = h) (O : Ow K Z h n0 D) (N : Fr n0 locs) {j x : Int32} (hg : wV D a t j (.int x) = some D') (hK : (K t).1 = .array .int)
    {g : JFrame} (hgm : g.method = m) {rest : List Value} (hs : g.stack = .int x :: .int j :: .ref (n0 + a) :: rest) (hd : decode c.code g.pc = .ok (.iastore, 1)) :
    ∃ T' h' L, Stand p l e R s m args below meth c T' L cells slots ∧ T'.heap = h' ∧ Ow K Z h' n0 D' ∧ Fr n0 L ∧ ∀ target, Steps p.tables e below (T'.setTop { g with pc := g.pc + 1, stack := rest }) target → Steps p.tables e below (T.setTop g) target := by
  obtain ⟨cl, A, hin⟩ := O.arrW hg hK
  obtain ⟨T', h', X', e', W, st⟩ := stI X hx hZ eT A hin hgm hs hd
  exact ⟨T', h', _, X', e', O.st hg hK rfl W, Fr.snoc X' N (Nat.le_add_right _ _), st⟩
theorem stBW (X : Stand p l e R s m args below meth c T locs cells slots) (hx : p.tables.exec = Jvm.exec) (hZ : Z.Warmed39 s.vm) (eT : T.heap = h) (O : Ow K Z h n0 D) (N : Fr n0 locs) {j x : Int32} (hg : wV D a t j (.int x.toInt8.toInt32) = some D') (hK : (K t).1 = .array .byte)
    {g : JFrame} (hgm : g.method = m) {rest : List Value} (hs : g.stack = .int x :: .int j :: .ref (n0 + a) :: rest) (hd : decode c.code g.pc = .ok (.bastore, 1)) :
    ∃ T' h' L, Stand p l e R s m args below meth c T' L cells slots ∧ T'.heap = h' ∧ Ow K Z h' n0 D' ∧ Fr n0 L ∧ ∀ target, Steps p.tables e below (T'.setTop { g with pc := g.pc + 1, stack := rest }) target → Steps p.tables e below (T.setTop g) target := by
  obtain ⟨cl, A, hin⟩ := O.arrW hg hK
  obtain ⟨T', h', X', e', W, st⟩ := stB X hx hZ eT A hin hgm hs hd
  exact ⟨T', h', _, X', e', O.st hg hK (fits_nar_byte _) W, Fr.snoc X' N (Nat.le_add_right _ _), st⟩
theorem stJW (X : Stand p l e R s m args below meth c T locs cells slots) (hx : p.tables.exec = Jvm.exec) (hZ : Z.Warmed39 s.vm) (eT : T.heap = h) (O : Ow K Z h n0 D) (N : Fr n0 locs) {j : Int32} {x : Int64} (hg : wV D a t j (.long x) = some D') (hK : (K t).1 = .array .long)
    {g : JFrame} (hgm : g.method = m) {rest : List Value} (hs : g.stack = .long x :: .int j :: .ref (n0 + a) :: rest) (hd : decode c.code g.pc = .ok (.lastore, 1)) :
    ∃ T' h' L, Stand p l e R s m args below meth c T' L cells slots ∧ T'.heap = h' ∧ Ow K Z h' n0 D' ∧ Fr n0 L ∧ ∀ target, Steps p.tables e below (T'.setTop { g with pc := g.pc + 1, stack := rest }) target → Steps p.tables e below (T.setTop g) target := by
  obtain ⟨cl, A, hin⟩ := O.arrW hg hK
  obtain ⟨T', h', X', e', W, st⟩ := stJ X hx hZ eT A hin hgm hs hd
  exact ⟨T', h', _, X', e', O.st hg hK rfl W, Fr.snoc X' N (Nat.le_add_right _ _), st⟩
theorem putW (X : Stand p l e R s m args below meth c T locs cells slots) (hx : p.tables.exec = Jvm.exec) (hZ : Z.Warmed39 s.vm) {own C f d : String} {index kk i : Nat} {ty : FieldType} (hown : s.vm.findClass own = some m.cls) (w : (Cond.fieldLink own index C f d).before a0 Z = true) (hL : Lay K Z a0)
    (eT : T.heap = h) (O : Ow K Z h n0 D) (N : Fr n0 locs) {v : Value} (hg : pV D a t i v = some D') (hK : (K t).1 = .object C) (hf : (K t).2[i]? = some (f, d)) (L : (Cond.lays C C f d).before a0 Z = true ∨ ((Cond.laysFinal C C f d).before a0 Z = true ∧ own = C ∧ meth.name = "<init>")) (wi : (Cond.instantiable C kk).before a0 Z = true)
    (hty : parseFieldDescriptor d = some ty) (hn : narrow ty (sh n0 v) = sh n0 v) (hfit : fits ty (sh n0 v) = true) {g : JFrame} (hgm : g.method = m) {rest : List Value} (hs : g.stack = sh n0 v :: .ref (n0 + a) :: rest) (hd : decode c.code g.pc = .ok (.putfield index, 3)) :
    ∃ T' h' L, Stand p l e R s m args below meth c T' L cells slots ∧ T'.heap = h' ∧ Ow K Z h' n0 D' ∧ Fr n0 L ∧ ∀ target, Steps p.tables e below (T'.setTop { g with pc := g.pc + 3, stack := rest }) target → Steps p.tables e below (T.setTop g) target := by
  obtain ⟨old, F⟩ := O.fld0 hg hK hf
  obtain ⟨T', h', X', e', W, st⟩ := putF X hx hZ hown (host := "") (Or.inl w) Via.refl eT F (O.exaP hg hK) L wi hty hn hfit hgm hs hd
  exact ⟨T', h', _, X', e', O.put hL hg hK hf W, Fr.snoc X' N (Nat.le_add_right _ _), st⟩
theorem newW (X : Stand p l e R s m args below meth c T locs cells slots) (hx : p.tables.exec = Jvm.exec) (hZ : Z.Warmed39 s.vm) {own C : String} {index n : Nat} (hown : s.vm.findClass own = some m.cls) (w : (Cond.classLink own index C).before a0 Z = true) (wi : (Cond.instantiable C n).before a0 Z = true) (wz : (Cond.initialized C).before a0 Z = true) (hL : Lay K Z a0) (eT : T.heap = h) (O : Ow K Z h n0 D)
    (hK : (K t).1 = .object C) {ds : List Value} (hds : ∀ q ∈ (K t).2.zipIdx, ∃ ty, parseFieldDescriptor q.1.2 = some ty ∧ ds[q.2]? = some (defaultValue ty)) {g : JFrame} (hg : g.method = m) (hd : decode c.code g.pc = .ok (.new index, 3)) (hc : cells + 1 ≤ R.cells) (hl : slots + n ≤ R.slots) :
    ∃ T' h', Stand p l e R s m args below meth c T' locs (cells + 1) (slots + n) ∧ T'.heap = h' ∧ Ow K Z h' n0 (D ++ [(t, ds)]) ∧ ∀ target, Steps p.tables e below (T'.setTop { g with pc := g.pc + 3, stack := .ref (n0 + D.length) :: g.stack }) target → Steps p.tables e below (T.setTop g) target := by
  obtain ⟨vm', cC, kC, h1, h2, h3, h4, X', st⟩ := X.newCold hx hown (mv hZ w) (mv hZ wi) (mv hZ wz) hg hd hc hl
  subst eT
  rw [hZ.alike.findClass] at h1
  obtain ⟨kZ, z1, -⟩ := Vm.findClass_spec h1
  obtain ⟨k', z2, z3⟩ := hZ.alike.2.2 _ _ z1
  cases h2.symm.trans z2
  have ei : kC.instanceTypes = kZ.instanceTypes := by rw [z3]
  have hN : (T.heap.push { cls := cC, slots := kC.instanceTypes.map defaultValue, vm := .none })[T.heap.size]? = some { cls := cC, slots := kC.instanceTypes.map defaultValue, vm := .none } := by simp
  have E : Ext T.heap (T.heap.push { cls := cC, slots := kC.instanceTypes.map defaultValue, vm := .none }) := ⟨by simp, fun a c h => by
    rw [Array.getElem?_push_lt (Array.getElem?_eq_some_iff.mp h).1]; exact (Array.getElem?_eq_getElem _).symm.trans h⟩
  have hsz := O.1
  refine ⟨_, _, X', rfl, O.push E (by simp) ⟨fun ty hK' => (by rw [hK] at hK'; cases hK'), fun C' hK' => ?_⟩, by rw [← hsz]; exact st⟩
  cases hK.symm.trans hK'
  rw [← hsz]
  refine ⟨⟨_, kZ, hN, h1, z1, rfl, fun _ => by simp [ei]⟩, fun i f d hi => ?_⟩
  obtain ⟨ty, t1, t2⟩ := hds ((f, d), i) (List.mem_zipIdx_iff_getElem?.mpr hi)
  refine ⟨_, t2, ?_⟩
  rw [sh_default]
  obtain ⟨c1, k1, cf, kf, i', f', a1, a2, a3, a4, a5, a6, -⟩ := ((hL t C hK).1 _ (List.mem_of_getElem? hi)).1.spec
  cases h1.symm.trans a1
  cases z1.symm.trans a2
  exact ⟨_, cf, kf, i', f', hN, a3, a4, by simp, rfl, a5, by simp [ei, a6, (State.fieldFound?_type a3 t1).2]⟩
theorem newAW (X : Stand p l e R s m args below meth c T locs cells slots) (hx : p.tables.exec = Jvm.exec) (hZ : Z.Warmed39 s.vm) {aty : ArrayType} (w : (Cond.arrayClass (newarray.typeOf aty)).before a0 Z = true) (eT : T.heap = h) (O : Ow K Z h n0 D) (hK : (K t).1 = .array (newarray.typeOf aty))
    {n : Int32} {cap : Nat} {z : Value} (hz : z = defaultValue (newarray.typeOf aty)) (hn : nA D t n cap z = some D') {g : JFrame} (hg : g.method = m) (hd : decode c.code g.pc = .ok (.newarray aty, 2)) {rest : List Value} (hs : g.stack = .int n :: rest)
    (hb : cap * 8 ≤ 536870912) (hc : cells + 1 ≤ R.cells) (hl : slots + cap ≤ R.slots) :
    ∃ T' h', Stand p l e R s m args below meth c T' locs (cells + 1) (slots + cap) ∧ T'.heap = h' ∧ Ow K Z h' n0 D' ∧ ∀ target, Steps p.tables e below (T'.setTop { g with pc := g.pc + 2, stack := .ref (n0 + D.length) :: rest }) target → Steps p.tables e below (T.setTop g) target := by
  have hcb : componentBytes (newarray.typeOf aty) ≤ 8 := by cases aty <;> decide
  by_cases q : n < 0
  · simp only [nA, if_pos q] at hn; cases hn
  simp only [nA, if_neg q] at hn
  by_cases hcap : n.toNatClampNeg ≤ cap
  · rw [if_pos hcap] at hn
    cases hn
    obtain ⟨cA, kA, comp, h1, h2, h3, X', st⟩ := X.newarrayPrim hx (mvA hZ w) hg hd hs q (Nat.le_trans (Nat.mul_le_mul hcap hcb) hb) hc (by omega)
    subst eT
    rw [hZ.alike.findClass] at h1
    obtain ⟨kZ, z1, -⟩ := Vm.findClass_spec h1
    obtain ⟨k', z2, z3⟩ := hZ.alike.2.2 _ _ z1
    cases h2.symm.trans z2
    have hsz := O.1
    refine ⟨_, _, X'.more (Nat.le_refl _) (by omega), rfl, O.push (h' := T.heap.push _) ⟨by simp, fun a c h => ?_⟩ (by simp) ⟨fun ty hK' => ?_, fun C hK' => by rw [hK] at hK'; cases hK'⟩, by rw [← hsz]; exact st⟩
    · rw [Array.getElem?_push_lt (Array.getElem?_eq_some_iff.mp h).1]; exact (Array.getElem?_eq_getElem _).symm.trans h
    · cases hK.symm.trans hK'
      rw [← hsz]
      have ek : kZ.kind = .array comp (newarray.typeOf aty) := by rw [← h3, z3]
      refine ⟨⟨_, kZ, Array.getElem?_push_size, h1, z1, rfl, fun q => by rw [ek] at q; cases q⟩, _, ⟨Array.getElem?_push_size, ⟨by simp, kZ, z1, comp, ek⟩, by simp⟩, ?_, ?_, fun v hv => ?_⟩
      · rw [hz, List.map_replicate, sh_default]; simp
      · rw [List.length_replicate]; exact (back32 q).2
      · rw [(List.mem_replicate.mp hv).2, hz]; cases aty <;> rfl
  · rw [if_neg hcap] at hn; cases hn
/-! 4. contracts and calls -/
def Qw (K : Kt) (Z : State) (n0 : Nat) (r : Option Value) (D' : Hp) : Option Value → Heap → List Loc → Prop := fun v h L => v = r ∧ Fr n0 L ∧ Ow K Z h n0 D'
def Ct (K : Kt) (l : Launch) (Z : State) (y : MethodName) (cw : Jvm.Cond) (rm : Room) (n0 : Nat) (D : Hp) (as' : Array Value) (r : Option Value) (D' : Hp) : Prop :=
  ∀ (h0 : Heap) (ws : List Jvm.Cond), Ow K Z h0 n0 D → MetFree l y (head1 (cw :: ws) rm) (fun a U => a = as' ∧ Z.Warmed39 U.vm ∧ U.heap = h0) (fun _ _ _ _ _ => True) (fun _ U o U' => ∃ v L, o = .returned v ∧ Qw K Z n0 r D' v U'.heap L ∧ FrameEnd U o U' L rm.cells rm.slots)
/-- what stands still through a body -/
def Cx (p : Program) (s : State) (m : MethodId) (meth : Method) (c : Code) (Z : State) (bytes : ByteArray) (maxL : Nat) (ret : Option FieldType) (own nm : String) : Prop :=
  p.tables.exec = Jvm.exec ∧ Z.Warmed39 s.vm ∧ c.code = bytes ∧ c.maxLocals = maxL ∧ s.vm.findClass own = some m.cls ∧ meth.name = nm ∧ meth.sig.returnType = ret ∧ meth.locks = false
variable {y : MethodName} {bytes : ByteArray} {maxL : Nat} {ret : Option FieldType} {rm : Room} {r : Option Value}
theorem Ct.of {as' : Array Value} (hpl : plainFor y = true) (body : ∀ (p : Program) (e : Env) (s : State) (m : MethodId) (below : List Frame) (meth : Method) (c : Code) (s₁ : State) (h0 : Heap), Cx p s m meth c Z bytes maxL ret y.cls y.name → Stand p l e rm s m as' below meth c s₁ [] 0 0 → s₁.heap = h0 → Ow K Z h0 n0 D →
      Gl p e below s rm.cells rm.slots (Qw K Z n0 r D') (s₁.setTop (entryFrame m as' maxL))) : Ct K l Z y (.code y bytes maxL ret) rm n0 D as' r D' := by
  intro h0 ws O
  refine MetFree.of_bodySF hpl hisR ?_
  intro p e s m args below meth c s₁ Bd hml0 hP hK
  obtain ⟨rfl, hZ, hh⟩ := hP
  exact body p e s m below meth c s₁ h0 ⟨Bd.exec, hZ, Bd.bytes, hml0, findClass_of_methodNamed Bd.named, (name_of_methodNamed Bd.named Bd.method).1, Bd.returns, BodyLoose.notSynchronized Bd⟩ (Stand.of_body Bd) (by rw [← hh, Bd.state]; rfl) O
theorem Ct.ofH {as' : Array Value} {hs : List (Nat × Nat × Nat × Nat)} (hpl : plainFor y = true) (body : ∀ (p : Program) (e : Env) (s : State) (m : MethodId) (below : List Frame) (meth : Method) (c : Code) (s₁ : State) (h0 : Heap), Cx p s m meth c Z bytes maxL ret y.cls y.name → Stand p l e rm s m as' below meth c s₁ [] 0 0 → s₁.heap = h0 → Ow K Z h0 n0 D →
      Gl p e below s rm.cells rm.slots (Qw K Z n0 r D') (s₁.setTop (entryFrame m as' maxL))) : Ct K l Z y (.codeWith y bytes maxL ret hs) rm n0 D as' r D' := by
  intro h0 ws O
  refine MetFree.of_bodySF hpl hisWith ?_
  intro p e s m args below meth c s₁ Bd hml0 hP hK
  obtain ⟨rfl, hZ, hh⟩ := hP
  exact body p e s m below meth c s₁ h0 ⟨Bd.exec, hZ, Bd.bytes, hml0, findClass_of_methodNamed Bd.named, (name_of_methodNamed Bd.named Bd.method).1, Bd.returns, BodyLoose.notSynchronized Bd⟩ (Stand.of_body Bd) (by rw [← hh, Bd.state]; rfl) O
theorem callSW (X : Stand p l e R s m args below meth c T locs cells slots) (hx : p.tables.exec = Jvm.exec) (hZ : Z.Warmed39 s.vm) {own : String} {index : Nat} (hown : s.vm.findClass own = some m.cls) (w1 : (Cond.methodLink own index y).before a0 Z = true) (w2 : (Cond.static y).before a0 Z = true) (w3 : (Cond.initialized y.cls).before a0 Z = true) (w4 : (Cond.code y bytes maxL ret).before a0 Z = true)
    (hy : y.cls ≠ "java/lang/invoke/MethodHandle" ∧ y.cls ≠ "java/lang/invoke/VarHandle") (eT : T.heap = h) (O : Ow K Z h n0 D) (N : Fr n0 locs) {as' : List Value} (hM : Ct K l Z y (.code y bytes maxL ret) rm n0 D as'.toArray r D') {W kc ks : Nat} (hkc : rm.cells = kc) (hks : rm.slots = ks) (hf : rm.frames + 1 ≤ R.frames) (hl : W + (maxL + 11) + rm.locals ≤ R.locals)
    {g : JFrame} (hg : g.method = m) (hsize : g.locals.size = c.maxLocals) {rest : List Value} (hlen : ∀ sig, parseMethodDescriptor y.desc = some sig → as'.length = sig.parameters.length) (hs : g.stack = as'.reverse ++ rest) (hW : 2 * g.monitorRoom + (rest.map fun v => v.category).sum ≤ W) (hd : decode c.code g.pc = .ok (.invokestatic index, 3)) (hc : cells + kc ≤ R.cells) (hsl : slots + ks ≤ R.slots) :
    ∃ T' h' L, Stand p l e R s m args below meth c T' L (cells + kc) (slots + ks) ∧ T'.heap = h' ∧ Ow K Z h' n0 D' ∧ Fr n0 L ∧ ∀ target, Steps p.tables e below (T'.setTop { g with pc := g.pc + 3, stack := r.toList ++ rest }) target → Steps p.tables e below (T.setTop g) target := by
  subst hkc hks
  obtain ⟨_, _, ⟨T', L', k', n'⟩, -, X', ⟨Lc, hQ, hL, hk, hn⟩, st⟩ := Jvm.LawKit.callS X hx hown (mvT hZ w1) (mvT hZ w2) (mvT hZ w3) (mvT hZ w4) hy (backOf (W := W) (hM h [] O) hZ w4 w3 hf hl) hg hsize (argsL := as') hlen hs hW hd (fun _ _ => ⟨rfl, eT, hc, hsl⟩)
  dsimp only [Pt.U, Pt.locs, Pt.cells, Pt.slots] at X' hL hk hn st hQ
  subst hL hk hn
  obtain ⟨rfl, N', O'⟩ := hQ
  exact ⟨T', _, _, X', rfl, O', N.app N', st⟩
theorem callSHW (X : Stand p l e R s m args below meth c T locs cells slots) (hx : p.tables.exec = Jvm.exec) (hZ : Z.Warmed39 s.vm) {own : String} {index : Nat} {hs' : List (Nat × Nat × Nat × Nat)} (hown : s.vm.findClass own = some m.cls) (w1 : (Cond.methodLink own index y).before a0 Z = true) (w2 : (Cond.static y).before a0 Z = true) (w3 : (Cond.initialized y.cls).before a0 Z = true) (w4 : (Cond.codeWith y bytes maxL ret hs').before a0 Z = true)
    (hy : y.cls ≠ "java/lang/invoke/MethodHandle" ∧ y.cls ≠ "java/lang/invoke/VarHandle") (eT : T.heap = h) (O : Ow K Z h n0 D) (N : Fr n0 locs) {as' : List Value} (hM : Ct K l Z y (.codeWith y bytes maxL ret hs') rm n0 D as'.toArray r D') {W kc ks : Nat} (hkc : rm.cells = kc) (hks : rm.slots = ks) (hf : rm.frames + 1 ≤ R.frames) (hl : W + (maxL + 11) + rm.locals ≤ R.locals)
    {g : JFrame} (hg : g.method = m) (hsize : g.locals.size = c.maxLocals) {rest : List Value} (hlen : ∀ sig, parseMethodDescriptor y.desc = some sig → as'.length = sig.parameters.length) (hs : g.stack = as'.reverse ++ rest) (hW : 2 * g.monitorRoom + (rest.map fun v => v.category).sum ≤ W) (hd : decode c.code g.pc = .ok (.invokestatic index, 3)) (hc : cells + kc ≤ R.cells) (hsl : slots + ks ≤ R.slots) :
    ∃ T' h' L, Stand p l e R s m args below meth c T' L (cells + kc) (slots + ks) ∧ T'.heap = h' ∧ Ow K Z h' n0 D' ∧ Fr n0 L ∧ ∀ target, Steps p.tables e below (T'.setTop { g with pc := g.pc + 3, stack := r.toList ++ rest }) target → Steps p.tables e below (T.setTop g) target := by
  subst hkc hks
  obtain ⟨_, _, ⟨T', L', k', n'⟩, -, X', ⟨Lc, hQ, hL, hk, hn⟩, st⟩ := callSH X hx hown (mvT hZ w1) (mvT hZ w2) (mvT hZ w3) (mvT hZ w4) hy (backOfWith (W := W) (hM h [] O) hZ w4 w3 hf hl) hg hsize (argsL := as') hlen hs hW hd (fun _ _ => ⟨rfl, eT, hc, hsl⟩)
  dsimp only [Pt.U, Pt.locs, Pt.cells, Pt.slots] at X' hL hk hn st hQ
  subst hL hk hn
  obtain ⟨rfl, N', O'⟩ := hQ
  exact ⟨T', _, _, X', rfl, O', N.app N', st⟩
theorem callIW (X : Stand p l e R s m args below meth c T locs cells slots) (hx : p.tables.exec = Jvm.exec) (hZ : Z.Warmed39 s.vm) {own : String} {index : Nat} (hy1 : y.name = "<init>") (hown : s.vm.findClass own = some m.cls) (w1 : (Cond.methodLink own index y).before a0 Z = true) (w2 : (Cond.instanceMethod y).before a0 Z = true) (w3 : (Cond.initialized y.cls).before a0 Z = true) (w4 : (Cond.code y bytes maxL none).before a0 Z = true)
    (hy : y.cls ≠ "java/lang/invoke/MethodHandle" ∧ y.cls ≠ "java/lang/invoke/VarHandle") (eT : T.heap = h) (O : Ow K Z h n0 D) (N : Fr n0 locs) {as' : List Value} (hM : Ct K l Z y (.code y bytes maxL none) rm n0 D (.ref (n0 + a) :: as').toArray r D') {W kc ks : Nat} (hkc : rm.cells = kc) (hks : rm.slots = ks) (hf : rm.frames + 1 ≤ R.frames) (hl : W + (maxL + 11) + rm.locals ≤ R.locals)
    {g : JFrame} (hg : g.method = m) (hsize : g.locals.size = c.maxLocals) {rest : List Value} (hlen : ∀ sig, parseMethodDescriptor y.desc = some sig → as'.length = sig.parameters.length) (hs : g.stack = as'.reverse ++ .ref (n0 + a) :: rest) (hW : 2 * g.monitorRoom + (rest.map fun v => v.category).sum ≤ W) (hd : decode c.code g.pc = .ok (.invokespecial index, 3)) (hc : cells + kc ≤ R.cells) (hsl : slots + ks ≤ R.slots) :
    ∃ T' h' L, Stand p l e R s m args below meth c T' L (cells + kc) (slots + ks) ∧ T'.heap = h' ∧ Ow K Z h' n0 D' ∧ Fr n0 L ∧ ∀ target, Steps p.tables e below (T'.setTop { g with pc := g.pc + 3, stack := r.toList ++ rest }) target → Steps p.tables e below (T.setTop g) target := by
  subst hkc hks
  obtain ⟨_, _, ⟨T', L', k', n'⟩, -, X', ⟨Lc, hQ, hL, hk, hn⟩, st⟩ := Jvm.LawKit.callI X hx hown hy1 (mvT hZ w1) (mvT hZ w2) (mvT hZ w4) hy (backOf (W := W) (hM h [] O) hZ w4 w3 hf hl) hg hsize (argsL := as') hlen hs hW hd (fun _ _ => ⟨rfl, eT, hc, hsl⟩)
  dsimp only [Pt.U, Pt.locs, Pt.cells, Pt.slots] at X' hL hk hn st hQ
  subst hL hk hn
  obtain ⟨rfl, N', O'⟩ := hQ
  exact ⟨T', _, _, X', rfl, O', N.app N', st⟩
theorem callVW (X : Stand p l e R s m args below meth c T locs cells slots) (hx : p.tables.exec = Jvm.exec) (hZ : Z.Warmed39 s.vm) {own C : String} {index : Nat} (hown : s.vm.findClass own = some m.cls) (w1 : (Cond.methodLink own index y).before a0 Z = true) (w2 : (Cond.declares y).before a0 Z = true) (w5 : (Cond.selects C y y).before a0 Z = true) (w6 : (Cond.instanceMethod y).before a0 Z = true) (w3 : (Cond.initialized y.cls).before a0 Z = true) (w4 : (Cond.code y bytes maxL ret).before a0 Z = true)
    (hy : y.cls ≠ "java/lang/invoke/MethodHandle" ∧ y.cls ≠ "java/lang/invoke/VarHandle") (eT : T.heap = h) (O : Ow K Z h n0 D) (N : Fr n0 locs) {q : Nat} (hck : ck D a t = some q) (hK : (K t).1 = .object C) {as' : List Value} (hM : Ct K l Z y (.code y bytes maxL ret) rm n0 D (.ref (n0 + a) :: as').toArray r D') {W kc ks : Nat} (hkc : rm.cells = kc) (hks : rm.slots = ks) (hf : rm.frames + 1 ≤ R.frames) (hl : W + (maxL + 11) + rm.locals ≤ R.locals)
    {g : JFrame} (hg : g.method = m) (hsize : g.locals.size = c.maxLocals) {rest : List Value} (hlen : ∀ sig, parseMethodDescriptor y.desc = some sig → as'.length = sig.parameters.length) (hs : g.stack = as'.reverse ++ .ref (n0 + a) :: rest) (hW : 2 * g.monitorRoom + (rest.map fun v => v.category).sum ≤ W) (hd : decode c.code g.pc = .ok (.invokevirtual index, 3)) (hc : cells + kc ≤ R.cells) (hsl : slots + ks ≤ R.slots) :
    ∃ T' h' L, Stand p l e R s m args below meth c T' L (cells + kc) (slots + ks) ∧ T'.heap = h' ∧ Ow K Z h' n0 D' ∧ Fr n0 L ∧ ∀ target, Steps p.tables e below (T'.setTop { g with pc := g.pc + 3, stack := r.toList ++ rest }) target → Steps p.tables e below (T.setTop g) target := by
  subst hkc hks
  obtain ⟨cq, kq, qa, qb, qc⟩ := isOf hZ eT (O.exaC hck hK)
  obtain ⟨_, _, ⟨T', L', k', n'⟩, -, X', ⟨Lc, hQ, hL, hk, hn⟩, st⟩ := X.virtualBack hx (y := y) (z := y) hown (mvT hZ w1) (mvT hZ w2) (notFace_of_selects (args := #[]) (mvT hZ w5)) (mvT hZ w5) (mvT hZ w6) hy (backOf (W := W) (hM h [] O) hZ w4 w3 hf hl) qa qc hg hsize (Steps.refl _) (argsL := as') hlen hs hW hd (fun _ _ => ⟨rfl, eT, hc, hsl⟩)
  dsimp only [Pt.U, Pt.locs, Pt.cells, Pt.slots] at X' hL hk hn st hQ
  subst hL hk hn
  obtain ⟨rfl, N', O'⟩ := hQ
  exact ⟨T', _, _, X', rfl, O', N.app N', fun target k => st.trans k⟩
theorem callPW (X : Stand p l e R s m args below meth c T locs cells slots) (hx : p.tables.exec = Jvm.exec) (hZ : Z.Warmed39 s.vm) {own C : String} {index nk : Nat} (hown : s.vm.findClass own = some m.cls) (w1 : (Cond.methodLink own index y).before a0 Z = true) (w2 : (Cond.privateMethod y).before a0 Z = true) (w5 : (Cond.instantiable y.cls nk).before a0 Z = true) (w6 : (Cond.instanceMethod y).before a0 Z = true) (w3 : (Cond.initialized y.cls).before a0 Z = true) (w4 : (Cond.code y bytes maxL ret).before a0 Z = true)
    (hy : y.cls ≠ "java/lang/invoke/MethodHandle" ∧ y.cls ≠ "java/lang/invoke/VarHandle") (eT : T.heap = h) (O : Ow K Z h n0 D) (N : Fr n0 locs) {q : Nat} (hck : ck D a t = some q) (hK : (K t).1 = .object C) {as' : List Value} (hM : Ct K l Z y (.code y bytes maxL ret) rm n0 D (.ref (n0 + a) :: as').toArray r D') {W kc ks : Nat} (hkc : rm.cells = kc) (hks : rm.slots = ks) (hf : rm.frames + 1 ≤ R.frames) (hl : W + (maxL + 11) + rm.locals ≤ R.locals)
    {g : JFrame} (hg : g.method = m) (hsize : g.locals.size = c.maxLocals) {rest : List Value} (hlen : ∀ sig, parseMethodDescriptor y.desc = some sig → as'.length = sig.parameters.length) (hs : g.stack = as'.reverse ++ .ref (n0 + a) :: rest) (hW : 2 * g.monitorRoom + (rest.map fun v => v.category).sum ≤ W) (hd : decode c.code g.pc = .ok (.invokevirtual index, 3)) (hc : cells + kc ≤ R.cells) (hsl : slots + ks ≤ R.slots) :
    ∃ T' h' L, Stand p l e R s m args below meth c T' L (cells + kc) (slots + ks) ∧ T'.heap = h' ∧ Ow K Z h' n0 D' ∧ Fr n0 L ∧ ∀ target, Steps p.tables e below (T'.setTop { g with pc := g.pc + 3, stack := r.toList ++ rest }) target → Steps p.tables e below (T.setTop g) target := by
  subst hkc hks
  obtain ⟨cC, kC, i1, i2, -, i4, -, -⟩ := Cond.instantiable_spec (mvT (args := args) hZ w5)
  have hpr := Cond.privateMethod_at (mvP (args := args) hZ w2)
  have hsel := selects_self_of_private i1 i2 (Bool.or_eq_false_iff.mp i4).1 hpr (mvT (args := args) hZ w6) hy
  obtain ⟨cq, qa, qb⟩ := (O.exaC hck hK).cell
  obtain ⟨_, _, ⟨T', L', k', n'⟩, -, X', ⟨Lc, hQ, hL, hk, hn⟩, st⟩ := X.privateBack hx (y := y) hown (mvT hZ w1) (mvT hZ w6) hsel hpr (mvT hZ w4) hy (backOf (W := W) (hM h [] O) hZ w4 w3 hf hl) hg hsize (Steps.refl _) (by rw [eT]; exact qa) qb (argsL := as') hlen hs hW hd (fun _ _ => ⟨rfl, eT, hc, hsl⟩)
  dsimp only [Pt.U, Pt.locs, Pt.cells, Pt.slots] at X' hL hk hn st hQ
  subst hL hk hn
  obtain ⟨rfl, N', O'⟩ := hQ
  exact ⟨T', _, _, X', rfl, O', N.app N', fun target k => st.trans k⟩
theorem cloneW (X : Stand p l e R s m args below meth c T locs cells slots) (hx : p.tables.exec = Jvm.exec) (hZ : Z.Warmed39 s.vm) {own ad : String} {index : Nat} {ty : FieldType} (hown : s.vm.findClass own = some m.cls) (had : ad = "[" ++ ty.toString)
    (w1 : (Cond.methodLink own index ⟨ad, "clone", "()Ljava/lang/Object;"⟩).before a0 Z = true) (w2 : (Cond.sameMethod ad "java/lang/Object" "clone" "()Ljava/lang/Object;").before a0 Z = true) (w3 : (Cond.native ⟨"java/lang/Object", "clone", "()Ljava/lang/Object;"⟩).before a0 Z = true)
    (w4 : (Cond.instanceMethod ⟨"java/lang/Object", "clone", "()Ljava/lang/Object;"⟩).before a0 Z = true) (w5 : (Cond.selects ad ⟨ad, "clone", "()Ljava/lang/Object;"⟩ ⟨"java/lang/Object", "clone", "()Ljava/lang/Object;"⟩).before a0 Z = true) (w6 : (Cond.castable ad "java/lang/Cloneable").before a0 Z = true)
    (eT : T.heap = h) (O : Ow K Z h n0 D) (hK : (K t).1 = .array ty) {cap : Nat} (hq : cA' D a t cap = some D') {g : JFrame} (hg : g.method = m) (hsize : g.locals.size = c.maxLocals) {rest : List Value} (hs : g.stack = .ref (n0 + a) :: rest) (hd : decode c.code g.pc = .ok (.invokevirtual index, 3))
    (hf : 1 ≤ R.frames) {W : Nat} (hW : 2 * g.monitorRoom + (rest.map fun v => v.category).sum ≤ W) (hl : W + 14 ≤ R.locals) (hc : cells + 1 ≤ R.cells) (hsl : slots + cap ≤ R.slots) :
    ∃ T' h', Stand p l e R s m args below meth c T' locs (cells + 1) (slots + cap) ∧ T'.heap = h' ∧ Ow K Z h' n0 D' ∧ ∀ target, Steps p.tables e below (T'.setTop { g with pc := g.pc + 3, stack := .ref (n0 + D.length) :: rest }) target → Steps p.tables e below (T.setTop g) target := by
  obtain ⟨vs, h1, h2, rfl⟩ := cA_e hq
  obtain ⟨E, cl, A, hsl', hlen, hfit⟩ := (O.2 a t vs h1).1 ty hK
  rw [← had] at E
  obtain ⟨c2, k, e1, e2, e3, e4, e5⟩ := E
  cases A.1.symm.trans e1
  obtain ⟨c1, cC, g1, g2, g3⟩ := Cond.castable_spec w6
  cases e2.symm.trans g1
  have hal : Z.vm.Alike T.vm := hZ.alike.trans X.warmed.alike
  have hsz : cl.slots.size = vs.length := by rw [hsl', sh_len]
  have hfc : ∀ i v, cl.slots[i]? = some v → Z.fitsSlot cl.cls .none i v = true := fun i v hv => by
    obtain ⟨-, k2, hk2, comp, hkind⟩ := A.2.1
    have e : Z.slotType? cl.cls .none i = some ty := by simp [State.slotType?, hk2, hkind]
    have hv' : ∃ w ∈ vs, sh n0 w = v := by
      rw [hsl'] at hv
      have hm : v ∈ vs.map (sh n0) := by
        have := Array.mem_of_getElem? hv
        simpa using this
      exact List.mem_map.mp hm
    obtain ⟨w, hw, rfl⟩ := hv'
    have hfw : fits ty (sh n0 w) = true := by
      have := hfit w hw
      cases w <;> first | exact this | (cases ty <;> first | (cases this; done) | rfl)
    simpa [State.fitsSlot, e] using hfw
  obtain ⟨vm', X', st⟩ := X.cloneArray hx hown (mv hZ w1) (mv hZ w2) (mv hZ w3) (mv hZ w4) (mv hZ w5) (a := n0 + a) (by rw [eT]; exact A.1) A.2.1.1 A.2.2 (by rw [hZ.alike.findClass]; exact e2) (by rw [hZ.alike.findClass]; exact g2) (by rw [hZ.alike.assignable]; exact g3)
    (fun i v hv => by have q := hfc i v hv; rw [← State.fitsSlot_setVm hal] at q; exact q) hg hsize hs hd hf (by omega) hc (by omega)
    (by obtain ⟨-, k2, hk2, comp, hkind⟩ := A.2.1; rw [hZ.alike.clonesLoader]; exact Vm.clonesLoader_of_array hk2 hkind)
  subst eT
  have hs0 := O.1
  refine ⟨_, _, X'.more (Nat.le_refl _) (by omega), rfl, O.push (h' := T.heap.push _) ⟨by simp, fun a c h => ?_⟩ (by simp) ⟨fun ty' hK' => ?_, fun C hK' => by rw [hK] at hK'; cases hK'⟩, by rw [← hs0]; exact st⟩
  · rw [Array.getElem?_push_lt (Array.getElem?_eq_some_iff.mp h).1]; exact (Array.getElem?_eq_getElem _).symm.trans h
  · cases hK.symm.trans hK'
    rw [← hs0, ← had]
    exact ⟨⟨_, k, Array.getElem?_push_size, e2, e3, rfl, e5⟩, _, ⟨Array.getElem?_push_size, ⟨fun _ z => (by cases z), A.2.1.2⟩, fun z => (by cases z)⟩, hsl', hlen, hfit⟩
theorem castW (X : Stand p l e R s m args below meth c T locs cells slots) (hx : p.tables.exec = Jvm.exec) (hZ : Z.Warmed39 s.vm) {own ad : String} {index : Nat} {ty : FieldType} (hown : s.vm.findClass own = some m.cls) (w : (Cond.classLink own index ad).before a0 Z = true) (had : ad = "[" ++ ty.toString) (eT : T.heap = h) (O : Ow K Z h n0 D) {q : Nat} (hck : ck D a t = some q) (hK : (K t).1 = .array ty)
    {g : JFrame} (hg : g.method = m) {rest : List Value} (hs : g.stack = .ref (n0 + a) :: rest) (hd : decode c.code g.pc = .ok (.checkcast index, 3)) : ∃ T', Stand p l e R s m args below meth c T' locs cells slots ∧ T'.heap = h ∧ ∀ target, Steps p.tables e below (T'.setTop { g with pc := g.pc + 3 }) target → Steps p.tables e below (T.setTop g) target := by
  obtain ⟨vs, h1⟩ := ck_e hck
  obtain ⟨E, -⟩ := (O.2 a t vs h1).1 ty hK
  rw [← had] at E
  exact castY X hx hZ hown w eT (Ins.self E) hg hs hd
end OwnLaws
def Kt1 : Kt := fun k => match k with
  | 0 => ((.array .long), [])
  | _ => (.int, [])
theorem lay1 {Z : State} {a0 : Array Value} (hw : ∀ d ∈ tables_1, d.before a0 Z = true) : Lay Kt1 Z a0 := by
  intro t C hC
  match t, hC with
  | 0, hC => cases hC
  | n + 1, hC => cases hC
theorem d1_0 : decode prog_53_method_19_code 0 = .ok (.iconst 0, 1) := by decide +kernel
theorem d1_1 : decode prog_53_method_19_code 1 = .ok (.istore 4, 2) := by decide +kernel
theorem d1_3 : decode prog_53_method_19_code 3 = .ok (.iload 4, 2) := by decide +kernel
theorem d1_5 : decode prog_53_method_19_code 5 = .ok (.aload_n 0, 1) := by decide +kernel
theorem d1_6 : decode prog_53_method_19_code 6 = .ok (.arraylength, 1) := by decide +kernel
theorem d1_7 : decode prog_53_method_19_code 7 = .ok (.if_icmp .ge 40, 3) := by decide +kernel
theorem d1_10 : decode prog_53_method_19_code 10 = .ok (.lload_n 2, 1) := by decide +kernel
theorem d1_11 : decode prog_53_method_19_code 11 = .ok (.aload_n 0, 1) := by decide +kernel
theorem d1_12 : decode prog_53_method_19_code 12 = .ok (.iload 4, 2) := by decide +kernel
theorem d1_14 : decode prog_53_method_19_code 14 = .ok (.laload, 1) := by decide +kernel
theorem d1_15 : decode prog_53_method_19_code 15 = .ok (.aload_n 1, 1) := by decide +kernel
theorem d1_16 : decode prog_53_method_19_code 16 = .ok (.iload 4, 2) := by decide +kernel
theorem d1_18 : decode prog_53_method_19_code 18 = .ok (.laload, 1) := by decide +kernel
theorem d1_19 : decode prog_53_method_19_code 19 = .ok (.lxor, 1) := by decide +kernel
theorem d1_20 : decode prog_53_method_19_code 20 = .ok (.land, 1) := by decide +kernel
theorem d1_21 : decode prog_53_method_19_code 21 = .ok (.lstore 5, 2) := by decide +kernel
theorem d1_23 : decode prog_53_method_19_code 23 = .ok (.aload_n 0, 1) := by decide +kernel
theorem d1_24 : decode prog_53_method_19_code 24 = .ok (.iload 4, 2) := by decide +kernel
theorem d1_26 : decode prog_53_method_19_code 26 = .ok (.dup2, 1) := by decide +kernel
theorem d1_27 : decode prog_53_method_19_code 27 = .ok (.laload, 1) := by decide +kernel
theorem d1_28 : decode prog_53_method_19_code 28 = .ok (.lload 5, 2) := by decide +kernel
theorem d1_30 : decode prog_53_method_19_code 30 = .ok (.lxor, 1) := by decide +kernel
theorem d1_31 : decode prog_53_method_19_code 31 = .ok (.lastore, 1) := by decide +kernel
theorem d1_32 : decode prog_53_method_19_code 32 = .ok (.aload_n 1, 1) := by decide +kernel
theorem d1_33 : decode prog_53_method_19_code 33 = .ok (.iload 4, 2) := by decide +kernel
theorem d1_35 : decode prog_53_method_19_code 35 = .ok (.dup2, 1) := by decide +kernel
theorem d1_36 : decode prog_53_method_19_code 36 = .ok (.laload, 1) := by decide +kernel
theorem d1_37 : decode prog_53_method_19_code 37 = .ok (.lload 5, 2) := by decide +kernel
theorem d1_39 : decode prog_53_method_19_code 39 = .ok (.lxor, 1) := by decide +kernel
theorem d1_40 : decode prog_53_method_19_code 40 = .ok (.lastore, 1) := by decide +kernel
theorem d1_41 : decode prog_53_method_19_code 41 = .ok (.iinc 4 1, 3) := by decide +kernel
theorem d1_44 : decode prog_53_method_19_code 44 = .ok (.goto (-41), 3) := by decide +kernel
theorem d1_47 : decode prog_53_method_19_code 47 = .ok (.return_, 1) := by decide +kernel
theorem pn_1 : plainName "com/example/whorl/whorl/hpke/PrimeField" = true := by first | (simp [plainName, overriddenIn]; done) | decide +kernel
def b1_3 : Nat → Hp → Nat → Nat → Int64 → Int32 → Option (Hp)
  | 0, _, _, _, _, _ => none
  | fu + 1, D, ob0, ob1, j2, i4 =>
  (lA D ob0 0).bind fun x1 =>
  if i4 < x1 then ((rJ D ob0 0 i4).bind fun x3 =>
  (rJ D ob1 0 i4).bind fun x4 =>
  own_let (j2 &&& (x3 ^^^ x4)) fun v5 =>
  (rJ D ob0 0 i4).bind fun x6 =>
  (wV D ob0 0 i4 (.long (x6 ^^^ v5))).bind fun D7 =>
  (rJ D7 ob1 0 i4).bind fun x8 =>
  (wV D7 ob1 0 i4 (.long (x8 ^^^ v5))).bind fun D9 =>
  b1_3 fu D9 ob0 ob1 j2 (i4 + (1 : Int32))) else (some D)
set_option maxRecDepth 65536 in
set_option maxHeartbeats 40000000 in
theorem bt1_3 {p : Program} {l : Launch} {e : Env} {s : State} {m : MethodId} {args : Array Value} {below : List Frame} {meth : Method} {c : Code} {Z : State} {a0 : Array Value} {n0 : Nat} {D' : Hp} (hw : ∀ d ∈ tables_1, d.before a0 Z = true) (hC : Cx p s m meth c Z prog_53_method_19_code 7 none "com/example/whorl/whorl/hpke/PrimeField" "swap") (fu : Nat) : ∀ {T0 : State} {locs : List Loc} {cells slots : Nat} {h0 : Heap} {D : Hp} {ob0 : Nat} {ob1 : Nat} {j2 : Int64} {i4 : Int32} {s5 : Slot} {s6 : Slot}, (Stand p l e ({ frames := 0, cells := 0, slots := 0, locals := 0 } : Room) s m args below meth c T0 locs cells slots) → (T0.heap = h0) → (Ow Kt1 Z h0 n0 D) → (Fr n0 locs) → (cells ≤ 0) → (slots ≤ 0) → (Two s5 s6) → (b1_3 fu D ob0 ob1 j2 i4 = some D') → Gl p e below s 0 0 (Qw Kt1 Z n0 none D') (T0.setTop (mkF m 3 #[.val (.ref (n0 + ob0)), .val (.ref (n0 + ob1)), .val (.long j2), .second, .val (.int i4), s5, s6] [])) := by
  obtain ⟨hx, hZ, hby, hml, hown, hnm, hret, hlk⟩ := id hC
  have hml : c.maxLocals = 7 := hml
  induction fu with
  | zero => intro T0 locs cells slots h0 D ob0 ob1 j2 i4 s5 s6 X0 e0 O0 N0 hcc hss hs5 hf; cases hf
  | succ fu ih =>
    intro T0 locs cells slots h0 D ob0 ob1 j2 i4 s5 s6 X0 e0 O0 N0 hcc hss hs5 hf
    rw [b1_3] at hf
    obtain ⟨x1, hx1, hf⟩ := own_bind hf
    refine Gl.on (B := T0.setTop (mkF m 7 #[.val (.ref (n0 + ob0)), .val (.ref (n0 + ob1)), .val (.long j2), .second, .val (.int i4), s5, s6] [(.int x1), (.int i4)])) (fun t k => ?_) ?_
    · show Steps p.tables e below (T0.setTop (mkF m 3 #[.val (.ref (n0 + ob0)), .val (.ref (n0 + ob1)), .val (.long j2), .second, .val (.int i4), s5, s6] [])) _
      refine XS.iload X0.here hx rfl (hb hby d1_3) rfl ?_
      show Steps p.tables e below (T0.setTop (mkF m 5 #[.val (.ref (n0 + ob0)), .val (.ref (n0 + ob1)), .val (.long j2), .second, .val (.int i4), s5, s6] [(.int i4)])) _
      refine XS.aloadN X0.here hx rfl (hb hby d1_5) rfl rfl ?_
      show Steps p.tables e below (T0.setTop (mkF m 6 #[.val (.ref (n0 + ob0)), .val (.ref (n0 + ob1)), .val (.long j2), .second, .val (.int i4), s5, s6] [(.ref (n0 + ob0)), (.int i4)])) _
      refine lenW' X0 hx hZ e0 O0 hx1 (ty := .long) rfl (g := (mkF m 6 #[.val (.ref (n0 + ob0)), .val (.ref (n0 + ob1)), .val (.long j2), .second, .val (.int i4), s5, s6] [(.ref (n0 + ob0)), (.int i4)])) rfl rfl (hb hby d1_6) _ ?_
      exact k
    by_cases hc2 : i4 < x1
    · rw [if_pos hc2] at hf
      obtain ⟨x3, hx3, hf⟩ := own_bind hf
      obtain ⟨x4, hx4, hf⟩ := own_bind hf
      obtain ⟨v5, hv5, hf⟩ := own_letE hf
      obtain ⟨x6, hx6, hf⟩ := own_bind hf
      obtain ⟨D7, hq7, hf⟩ := own_bind hf
      obtain ⟨T7, h7, L7, X7, e7, O7, N7, st7⟩ := stJW X0 hx hZ e0 O0 N0 hq7 rfl (g := (mkF m 31 #[.val (.ref (n0 + ob0)), .val (.ref (n0 + ob1)), .val (.long j2), .second, .val (.int i4), .val (.long v5), .second] [(.long (x6 ^^^ v5)), (.int i4), (.ref (n0 + ob0))])) rfl rfl (hb hby d1_31)
      obtain ⟨x8, hx8, hf⟩ := own_bind hf
      obtain ⟨D9, hq9, hf⟩ := own_bind hf
      obtain ⟨T9, h9, L9, X9, e9, O9, N9, st9⟩ := stJW X7 hx hZ e7 O7 N7 hq9 rfl (g := (mkF m 40 #[.val (.ref (n0 + ob0)), .val (.ref (n0 + ob1)), .val (.long j2), .second, .val (.int i4), .val (.long v5), .second] [(.long (x8 ^^^ v5)), (.int i4), (.ref (n0 + ob1))])) rfl rfl (hb hby d1_40)
      refine Gl.on (B := T9.setTop (mkF m 3 #[.val (.ref (n0 + ob0)), .val (.ref (n0 + ob1)), .val (.long j2), .second, .val (.int (i4 + (1 : Int32))), .val (.long v5), .second] [])) (fun t k => ?_) ?_
      · show Steps p.tables e below (T0.setTop (mkF m 7 #[.val (.ref (n0 + ob0)), .val (.ref (n0 + ob1)), .val (.long j2), .second, .val (.int i4), s5, s6] [(.int x1), (.int i4)])) _
        refine XS.icmpNo X0.here hx rfl (hb hby d1_7) rfl (tlt hc2).2.1 ?_
        show Steps p.tables e below (T0.setTop (mkF m 10 #[.val (.ref (n0 + ob0)), .val (.ref (n0 + ob1)), .val (.long j2), .second, .val (.int i4), s5, s6] [])) _
        refine XS.lloadN X0.here hx rfl (hb hby d1_10) rfl ?_
        show Steps p.tables e below (T0.setTop (mkF m 11 #[.val (.ref (n0 + ob0)), .val (.ref (n0 + ob1)), .val (.long j2), .second, .val (.int i4), s5, s6] [(.long j2)])) _
        refine XS.aloadN X0.here hx rfl (hb hby d1_11) rfl rfl ?_
        show Steps p.tables e below (T0.setTop (mkF m 12 #[.val (.ref (n0 + ob0)), .val (.ref (n0 + ob1)), .val (.long j2), .second, .val (.int i4), s5, s6] [(.ref (n0 + ob0)), (.long j2)])) _
        refine XS.iload X0.here hx rfl (hb hby d1_12) rfl ?_
        show Steps p.tables e below (T0.setTop (mkF m 14 #[.val (.ref (n0 + ob0)), .val (.ref (n0 + ob1)), .val (.long j2), .second, .val (.int i4), s5, s6] [(.int i4), (.ref (n0 + ob0)), (.long j2)])) _
        refine ldJ X0 hx hZ e0 O0 hx3 rfl (g := (mkF m 14 #[.val (.ref (n0 + ob0)), .val (.ref (n0 + ob1)), .val (.long j2), .second, .val (.int i4), s5, s6] [(.int i4), (.ref (n0 + ob0)), (.long j2)])) rfl rfl (hb hby d1_14) _ ?_
        show Steps p.tables e below (T0.setTop (mkF m 15 #[.val (.ref (n0 + ob0)), .val (.ref (n0 + ob1)), .val (.long j2), .second, .val (.int i4), s5, s6] [(.long x3), (.long j2)])) _
        refine XS.aloadN X0.here hx rfl (hb hby d1_15) rfl rfl ?_
        show Steps p.tables e below (T0.setTop (mkF m 16 #[.val (.ref (n0 + ob0)), .val (.ref (n0 + ob1)), .val (.long j2), .second, .val (.int i4), s5, s6] [(.ref (n0 + ob1)), (.long x3), (.long j2)])) _
        refine XS.iload X0.here hx rfl (hb hby d1_16) rfl ?_
        show Steps p.tables e below (T0.setTop (mkF m 18 #[.val (.ref (n0 + ob0)), .val (.ref (n0 + ob1)), .val (.long j2), .second, .val (.int i4), s5, s6] [(.int i4), (.ref (n0 + ob1)), (.long x3), (.long j2)])) _
        refine ldJ X0 hx hZ e0 O0 hx4 rfl (g := (mkF m 18 #[.val (.ref (n0 + ob0)), .val (.ref (n0 + ob1)), .val (.long j2), .second, .val (.int i4), s5, s6] [(.int i4), (.ref (n0 + ob1)), (.long x3), (.long j2)])) rfl rfl (hb hby d1_18) _ ?_
        show Steps p.tables e below (T0.setTop (mkF m 19 #[.val (.ref (n0 + ob0)), .val (.ref (n0 + ob1)), .val (.long j2), .second, .val (.int i4), s5, s6] [(.long x4), (.long x3), (.long j2)])) _
        refine XS.lxor X0.here hx rfl (hb hby d1_19) rfl ?_
        show Steps p.tables e below (T0.setTop (mkF m 20 #[.val (.ref (n0 + ob0)), .val (.ref (n0 + ob1)), .val (.long j2), .second, .val (.int i4), s5, s6] [(.long (x3 ^^^ x4)), (.long j2)])) _
        refine XS.land X0.here hx rfl (hb hby d1_20) rfl ?_
        show Steps p.tables e below (T0.setTop (mkF m 21 #[.val (.ref (n0 + ob0)), .val (.ref (n0 + ob1)), .val (.long j2), .second, .val (.int i4), s5, s6] [(.long (j2 &&& (x3 ^^^ x4)))])) _
        refine own_to (congrArg (fun z => T0.setTop (mkF m 21 #[.val (.ref (n0 + ob0)), .val (.ref (n0 + ob1)), .val (.long j2), .second, .val (.int i4), s5, s6] [(.long z)])) hv5) ?_
        show Steps p.tables e below (T0.setTop (mkF m 21 #[.val (.ref (n0 + ob0)), .val (.ref (n0 + ob1)), .val (.long j2), .second, .val (.int i4), s5, s6] [(.long v5)])) _
        refine XS.lstore X0.here hx rfl (hb hby d1_21) rfl (l' := #[.val (.ref (n0 + ob0)), .val (.ref (n0 + ob1)), .val (.long j2), .second, .val (.int i4), .val (.long v5), .second]) (by rcases hs5 with ⟨rfl, rfl⟩ | ⟨_, rfl, rfl⟩ <;> rfl) ?_
        show Steps p.tables e below (T0.setTop (mkF m 23 #[.val (.ref (n0 + ob0)), .val (.ref (n0 + ob1)), .val (.long j2), .second, .val (.int i4), .val (.long v5), .second] [])) _
        refine XS.aloadN X0.here hx rfl (hb hby d1_23) rfl rfl ?_
        show Steps p.tables e below (T0.setTop (mkF m 24 #[.val (.ref (n0 + ob0)), .val (.ref (n0 + ob1)), .val (.long j2), .second, .val (.int i4), .val (.long v5), .second] [(.ref (n0 + ob0))])) _
        refine XS.iload X0.here hx rfl (hb hby d1_24) rfl ?_
        show Steps p.tables e below (T0.setTop (mkF m 26 #[.val (.ref (n0 + ob0)), .val (.ref (n0 + ob1)), .val (.long j2), .second, .val (.int i4), .val (.long v5), .second] [(.int i4), (.ref (n0 + ob0))])) _
        refine XT.dup2 X0.here hx rfl (hb hby d1_26) rfl rfl rfl ?_
        show Steps p.tables e below (T0.setTop (mkF m 27 #[.val (.ref (n0 + ob0)), .val (.ref (n0 + ob1)), .val (.long j2), .second, .val (.int i4), .val (.long v5), .second] [(.int i4), (.ref (n0 + ob0)), (.int i4), (.ref (n0 + ob0))])) _
        refine ldJ X0 hx hZ e0 O0 hx6 rfl (g := (mkF m 27 #[.val (.ref (n0 + ob0)), .val (.ref (n0 + ob1)), .val (.long j2), .second, .val (.int i4), .val (.long v5), .second] [(.int i4), (.ref (n0 + ob0)), (.int i4), (.ref (n0 + ob0))])) rfl rfl (hb hby d1_27) _ ?_
        show Steps p.tables e below (T0.setTop (mkF m 28 #[.val (.ref (n0 + ob0)), .val (.ref (n0 + ob1)), .val (.long j2), .second, .val (.int i4), .val (.long v5), .second] [(.long x6), (.int i4), (.ref (n0 + ob0))])) _
        refine XS.lload X0.here hx rfl (hb hby d1_28) rfl ?_
        show Steps p.tables e below (T0.setTop (mkF m 30 #[.val (.ref (n0 + ob0)), .val (.ref (n0 + ob1)), .val (.long j2), .second, .val (.int i4), .val (.long v5), .second] [(.long v5), (.long x6), (.int i4), (.ref (n0 + ob0))])) _
        refine XS.lxor X0.here hx rfl (hb hby d1_30) rfl ?_
        show Steps p.tables e below (T0.setTop (mkF m 31 #[.val (.ref (n0 + ob0)), .val (.ref (n0 + ob1)), .val (.long j2), .second, .val (.int i4), .val (.long v5), .second] [(.long (x6 ^^^ v5)), (.int i4), (.ref (n0 + ob0))])) _
        refine st7 _ ?_
        show Steps p.tables e below (T7.setTop (mkF m 32 #[.val (.ref (n0 + ob0)), .val (.ref (n0 + ob1)), .val (.long j2), .second, .val (.int i4), .val (.long v5), .second] [])) _
        refine XS.aloadN X7.here hx rfl (hb hby d1_32) rfl rfl ?_
        show Steps p.tables e below (T7.setTop (mkF m 33 #[.val (.ref (n0 + ob0)), .val (.ref (n0 + ob1)), .val (.long j2), .second, .val (.int i4), .val (.long v5), .second] [(.ref (n0 + ob1))])) _
        refine XS.iload X7.here hx rfl (hb hby d1_33) rfl ?_
        show Steps p.tables e below (T7.setTop (mkF m 35 #[.val (.ref (n0 + ob0)), .val (.ref (n0 + ob1)), .val (.long j2), .second, .val (.int i4), .val (.long v5), .second] [(.int i4), (.ref (n0 + ob1))])) _
        refine XT.dup2 X7.here hx rfl (hb hby d1_35) rfl rfl rfl ?_
        show Steps p.tables e below (T7.setTop (mkF m 36 #[.val (.ref (n0 + ob0)), .val (.ref (n0 + ob1)), .val (.long j2), .second, .val (.int i4), .val (.long v5), .second] [(.int i4), (.ref (n0 + ob1)), (.int i4), (.ref (n0 + ob1))])) _
        refine ldJ X7 hx hZ e7 O7 hx8 rfl (g := (mkF m 36 #[.val (.ref (n0 + ob0)), .val (.ref (n0 + ob1)), .val (.long j2), .second, .val (.int i4), .val (.long v5), .second] [(.int i4), (.ref (n0 + ob1)), (.int i4), (.ref (n0 + ob1))])) rfl rfl (hb hby d1_36) _ ?_
        show Steps p.tables e below (T7.setTop (mkF m 37 #[.val (.ref (n0 + ob0)), .val (.ref (n0 + ob1)), .val (.long j2), .second, .val (.int i4), .val (.long v5), .second] [(.long x8), (.int i4), (.ref (n0 + ob1))])) _
        refine XS.lload X7.here hx rfl (hb hby d1_37) rfl ?_
        show Steps p.tables e below (T7.setTop (mkF m 39 #[.val (.ref (n0 + ob0)), .val (.ref (n0 + ob1)), .val (.long j2), .second, .val (.int i4), .val (.long v5), .second] [(.long v5), (.long x8), (.int i4), (.ref (n0 + ob1))])) _
        refine XS.lxor X7.here hx rfl (hb hby d1_39) rfl ?_
        show Steps p.tables e below (T7.setTop (mkF m 40 #[.val (.ref (n0 + ob0)), .val (.ref (n0 + ob1)), .val (.long j2), .second, .val (.int i4), .val (.long v5), .second] [(.long (x8 ^^^ v5)), (.int i4), (.ref (n0 + ob1))])) _
        refine st9 _ ?_
        show Steps p.tables e below (T9.setTop (mkF m 41 #[.val (.ref (n0 + ob0)), .val (.ref (n0 + ob1)), .val (.long j2), .second, .val (.int i4), .val (.long v5), .second] [])) _
        refine XS.iinc X9.here hx rfl (hb hby d1_41) rfl (l' := #[.val (.ref (n0 + ob0)), .val (.ref (n0 + ob1)), .val (.long j2), .second, .val (.int (i4 + (1 : Int32))), .val (.long v5), .second]) rfl ?_
        show Steps p.tables e below (T9.setTop (mkF m 44 #[.val (.ref (n0 + ob0)), .val (.ref (n0 + ob1)), .val (.long j2), .second, .val (.int (i4 + (1 : Int32))), .val (.long v5), .second] [])) _
        refine XS.goto X9.here hx rfl (pc0 := 44) (pc' := 3) rfl (hb hby d1_44) (by decide) (by decide) ?_
        exact k
      exact ih X9 e9 O9 N9 (by omega) (by omega) (Or.inr ⟨_, rfl, rfl⟩) hf
    · rw [if_neg hc2] at hf
      refine Gl.on (B := T0.setTop (mkF m 47 #[.val (.ref (n0 + ob0)), .val (.ref (n0 + ob1)), .val (.long j2), .second, .val (.int i4), s5, s6] [])) (fun t k => ?_) ?_
      · show Steps p.tables e below (T0.setTop (mkF m 7 #[.val (.ref (n0 + ob0)), .val (.ref (n0 + ob1)), .val (.long j2), .second, .val (.int i4), s5, s6] [(.int x1), (.int i4)])) _
        refine XS.icmpYes X0.here hx rfl (pc0 := 7) (pc' := 47) rfl (hb hby d1_7) rfl (flt hc2).2.1 (by decide) (by decide) ?_
        exact k
      obtain rfl := own_inj1 hf
      exact Gl.outV X0 hx hlk hret (hb hby d1_47) ⟨rfl, N0, by rw [e0]; exact O0⟩ (by show _ ≤ 0; omega) (by show _ ≤ 0; omega)
def f1 (D : Hp) (ob0 : Nat) (ob1 : Nat) (j2 : Int64) : Option (Hp) :=
  b1_3 12 D ob0 ob1 j2 (0 : Int32)
theorem ef_1 (m : MethodId) (n0 : Nat) (ob0 : Nat) (ob1 : Nat) (j2 : Int64) : entryFrame m #[(.ref (n0 + ob0)), (.ref (n0 + ob1)), (.long j2)] 7 = mkF m 0 #[.val (.ref (n0 + ob0)), .val (.ref (n0 + ob1)), .val (.long j2), .second, .unset, .unset, .unset] [] := by first | (simp [entryFrame, mkF, argsToLocals, Value.category]; done) | rfl
set_option maxRecDepth 65536 in
set_option maxHeartbeats 40000000 in
theorem ct1 {l : Launch} {Z : State} {a0 : Array Value} (hw : ∀ d ∈ tables_1, d.before a0 Z = true) {n0 : Nat} {D D' : Hp} {ob0 : Nat} {ob1 : Nat} {j2 : Int64} (hf : f1 D ob0 ob1 j2 = some D') :
    Ct Kt1 l Z (⟨"com/example/whorl/whorl/hpke/PrimeField", "swap", "([J[JJ)V"⟩ : MethodName) (.code (⟨"com/example/whorl/whorl/hpke/PrimeField", "swap", "([J[JJ)V"⟩ : MethodName) prog_53_method_19_code 7 none) ({ frames := 0, cells := 0, slots := 0, locals := 0 } : Room) n0 D #[(.ref (n0 + ob0)), (.ref (n0 + ob1)), (.long j2)] none D' := by
  refine Ct.of (plainFor_of_name pn_1) ?_
  intro p e s m below meth c T0 h0 hC X0 e0 O0
  obtain ⟨hx, hZ, hby, hml, hown, hnm, hret, hlk⟩ := id hC
  have hml : c.maxLocals = 7 := hml
  have hown : s.vm.findClass "com/example/whorl/whorl/hpke/PrimeField" = some m.cls := hown
  have hnm : meth.name = "swap" := hnm
  have N0 := Fr.nil n0
  refine Gl.on (fun t k => castTop (ef_1 m n0 ob0 ob1 j2) k) ?_
  rw [f1] at hf
  refine Gl.on (B := T0.setTop (mkF m 3 #[.val (.ref (n0 + ob0)), .val (.ref (n0 + ob1)), .val (.long j2), .second, .val (.int (0 : Int32)), .unset, .unset] [])) (fun t k => ?_) ?_
  · show Steps p.tables e below (T0.setTop (mkF m 0 #[.val (.ref (n0 + ob0)), .val (.ref (n0 + ob1)), .val (.long j2), .second, .unset, .unset, .unset] [])) _
    refine XS.iconst X0.here hx rfl (hb hby d1_0) ?_
    show Steps p.tables e below (T0.setTop (mkF m 1 #[.val (.ref (n0 + ob0)), .val (.ref (n0 + ob1)), .val (.long j2), .second, .unset, .unset, .unset] [(.int (0 : Int32))])) _
    refine XS.istore X0.here hx rfl (hb hby d1_1) rfl (l' := #[.val (.ref (n0 + ob0)), .val (.ref (n0 + ob1)), .val (.long j2), .second, .val (.int (0 : Int32)), .unset, .unset]) rfl ?_
    exact k
  exact bt1_3 hw hC 12 X0 e0 O0 N0 (by omega) (by omega) (Or.inl ⟨rfl, rfl⟩) hf
theorem pd_0 : parseMethodDescriptor "([J[JJ)V" = some ⟨[(.array .long), (.array .long), .long], none⟩ := by decide +kernel
theorem pn_0 : plainName "com/example/whorl/whorl/hpke/PrimeFieldSwapPinLaw" = true := by first | (simp [plainName, overriddenIn]; done) | decide +kernel
def b0_26 (D : Hp) (j0 : Int64) (j2 : Int64) (j4 : Int64) (j6 : Int64) (i9 : Int32) (t0 : Int64) : Option (Int32 × Hp) :=
  own_let (D.length) fun a3 => (nA D 0 (2 : Int32) 2 (.long (0 : Int64))).bind fun D3 =>
  (wV D3 a3 0 (0 : Int32) (.long j0)).bind fun D4 =>
  (wV D4 a3 0 (1 : Int32) (.long j2)).bind fun D5 =>
  own_let (D5.length) fun a6 => (nA D5 0 (2 : Int32) 2 (.long (0 : Int64))).bind fun D6 =>
  (wV D6 a6 0 (0 : Int32) (.long j4)).bind fun D7 =>
  (wV D7 a6 0 (1 : Int32) (.long j6)).bind fun D8 =>
  (f1 D8 a3 a6 t0).bind fun D9 =>
  (lA D9 a3 0).bind fun x10 =>
  if x10 = (2 : Int32) then ((lA D9 a6 0).bind fun x12 =>
  if x12 = (2 : Int32) then (if i9 = (0 : Int32) then ((rJ D9 a3 0 (0 : Int32)).bind fun x15 =>
  if x15 = j0 then ((rJ D9 a3 0 (1 : Int32)).bind fun x17 =>
  if x17 = j2 then ((rJ D9 a6 0 (0 : Int32)).bind fun x19 =>
  if x19 = j4 then ((rJ D9 a6 0 (1 : Int32)).bind fun x21 =>
  if x21 = j6 then (some ((1 : Int32), D9)) else (some ((0 : Int32), D9))) else (some ((0 : Int32), D9))) else (some ((0 : Int32), D9))) else (some ((0 : Int32), D9))) else ((rJ D9 a3 0 (0 : Int32)).bind fun x23 =>
  if x23 = j4 then ((rJ D9 a3 0 (1 : Int32)).bind fun x25 =>
  if x25 = j6 then ((rJ D9 a6 0 (0 : Int32)).bind fun x27 =>
  if x27 = j0 then ((rJ D9 a6 0 (1 : Int32)).bind fun x29 =>
  if x29 = j2 then (some ((1 : Int32), D9)) else (some ((0 : Int32), D9))) else (some ((0 : Int32), D9))) else (some ((0 : Int32), D9))) else (some ((0 : Int32), D9)))) else (some ((0 : Int32), D9))) else (some ((0 : Int32), D9))
set_option maxRecDepth 65536 in
set_option maxHeartbeats 40000000 in
theorem bt0_26 {p : Program} {l : Launch} {e : Env} {s : State} {m : MethodId} {args : Array Value} {below : List Frame} {meth : Method} {c : Code} {Z : State} {a0 : Array Value} {n0 : Nat} {D' : Hp} {r : Int32} {T0 : State} {locs : List Loc} {cells slots : Nat} {h0 : Heap} {D : Hp} {j0 : Int64} {j2 : Int64} {j4 : Int64} {j6 : Int64} {i8 : Int32} {i9 : Int32} {t0 : Int64} (hw : ∀ d ∈ tables_1, d.before a0 Z = true) (hC : Cx p s m meth c Z code maxLocals ret "com/example/whorl/whorl/hpke/PrimeFieldSwapPinLaw" "law") (X0 : Stand p l e room_1 s m args below meth c T0 locs cells slots) (e0 : T0.heap = h0) (O0 : Ow Kt1 Z h0 n0 D) (N0 : Fr n0 locs) (hcc : cells ≤ 0) (hss : slots ≤ 0) (hf : b0_26 D j0 j2 j4 j6 i9 t0 = some (r, D')) : Gl p e below s 16 128 (Qw Kt1 Z n0 (some (.int r)) D') (T0.setTop (mkF m 26 #[.val (.long j0), .second, .val (.long j2), .second, .val (.long j4), .second, .val (.long j6), .second, .val (.int i8), .val (.int i9), .unset, .unset, .unset, .unset] [(.long t0)])) := by
  obtain ⟨hx, hZ, hby, hml, hown, hnm, hret, hlk⟩ := id hC
  have hml : c.maxLocals = 14 := hml
  rw [b0_26] at hf
  obtain ⟨a3, ha3, hf⟩ := own_letE hf
  obtain ⟨D3, hD3, hf⟩ := own_bind hf
  obtain ⟨T3, h3, X3, e3, O3, st3⟩ := newAW X0 hx hZ (aty := .long) (hw _ (List.mem_of_getElem? (i := 1) rfl)) e0 O0 rfl rfl hD3 (g := (mkF m 29 #[.val (.long j0), .second, .val (.long j2), .second, .val (.long j4), .second, .val (.long j6), .second, .val (.int i8), .val (.int i9), .val (.long t0), .second, .unset, .unset] [(.int (2 : Int32))])) rfl (hb hby at_29) rfl (by decide) (by show _ + 1 ≤ 16; omega) (by show _ + 2 ≤ 128; omega)
  rw [ha3] at st3
  obtain ⟨D4, hq4, hf⟩ := own_bind hf
  obtain ⟨T4, h4, L4, X4, e4, O4, N4, st4⟩ := stJW X3 hx hZ e3 O3 N0 hq4 rfl (g := (mkF m 34 #[.val (.long j0), .second, .val (.long j2), .second, .val (.long j4), .second, .val (.long j6), .second, .val (.int i8), .val (.int i9), .val (.long t0), .second, .unset, .unset] [(.long j0), (.int (0 : Int32)), (.ref (n0 + a3)), (.ref (n0 + a3))])) rfl rfl (hb hby at_34)
  obtain ⟨D5, hq5, hf⟩ := own_bind hf
  obtain ⟨T5, h5, L5, X5, e5, O5, N5, st5⟩ := stJW X4 hx hZ e4 O4 N4 hq5 rfl (g := (mkF m 38 #[.val (.long j0), .second, .val (.long j2), .second, .val (.long j4), .second, .val (.long j6), .second, .val (.int i8), .val (.int i9), .val (.long t0), .second, .unset, .unset] [(.long j2), (.int (1 : Int32)), (.ref (n0 + a3)), (.ref (n0 + a3))])) rfl rfl (hb hby at_38)
  obtain ⟨a6, ha6, hf⟩ := own_letE hf
  obtain ⟨D6, hD6, hf⟩ := own_bind hf
  obtain ⟨T6, h6, X6, e6, O6, st6⟩ := newAW X5 hx hZ (aty := .long) (hw _ (List.mem_of_getElem? (i := 1) rfl)) e5 O5 rfl rfl hD6 (g := (mkF m 42 #[.val (.long j0), .second, .val (.long j2), .second, .val (.long j4), .second, .val (.long j6), .second, .val (.int i8), .val (.int i9), .val (.long t0), .second, .val (.ref (n0 + a3)), .unset] [(.int (2 : Int32))])) rfl (hb hby at_42) rfl (by decide) (by show _ + 1 ≤ 16; omega) (by show _ + 2 ≤ 128; omega)
  rw [ha6] at st6
  obtain ⟨D7, hq7, hf⟩ := own_bind hf
  obtain ⟨T7, h7, L7, X7, e7, O7, N7, st7⟩ := stJW X6 hx hZ e6 O6 N5 hq7 rfl (g := (mkF m 48 #[.val (.long j0), .second, .val (.long j2), .second, .val (.long j4), .second, .val (.long j6), .second, .val (.int i8), .val (.int i9), .val (.long t0), .second, .val (.ref (n0 + a3)), .unset] [(.long j4), (.int (0 : Int32)), (.ref (n0 + a6)), (.ref (n0 + a6))])) rfl rfl (hb hby at_48)
  obtain ⟨D8, hq8, hf⟩ := own_bind hf
  obtain ⟨T8, h8, L8, X8, e8, O8, N8, st8⟩ := stJW X7 hx hZ e7 O7 N7 hq8 rfl (g := (mkF m 53 #[.val (.long j0), .second, .val (.long j2), .second, .val (.long j4), .second, .val (.long j6), .second, .val (.int i8), .val (.int i9), .val (.long t0), .second, .val (.ref (n0 + a3)), .unset] [(.long j6), (.int (1 : Int32)), (.ref (n0 + a6)), (.ref (n0 + a6))])) rfl rfl (hb hby at_53)
  obtain ⟨D9, hq9, hf⟩ := own_bind hf
  obtain ⟨T9, h9, L9, X9, e9, O9, N9, st9⟩ := callSW X8 hx hZ (y := (⟨"com/example/whorl/whorl/hpke/PrimeField", "swap", "([J[JJ)V"⟩ : MethodName)) hown (hw _ (List.mem_of_getElem? (i := 2) rfl)) (hw _ (List.mem_of_getElem? (i := 3) rfl)) (hw _ (List.mem_of_getElem? (i := 4) rfl)) (hw _ (List.mem_of_getElem? (i := 5) rfl)) (by decide) e8 O8 N8 (as' := [(.ref (n0 + a3)), (.ref (n0 + a6)), (.long t0)]) (ct1 hw hq9) (W := 0) (kc := 0) (ks := 0) rfl rfl (by decide) (by decide) (g := (mkF m 62 #[.val (.long j0), .second, .val (.long j2), .second, .val (.long j4), .second, .val (.long j6), .second, .val (.int i8), .val (.int i9), .val (.long t0), .second, .val (.ref (n0 + a3)), .val (.ref (n0 + a6))] [(.long t0), (.ref (n0 + a6)), (.ref (n0 + a3))])) rfl (by rw [hml]; rfl) (rest := []) (lenOf pd_0 rfl) rfl (by show 2 * 0 + _ ≤ _; exact Nat.le_of_eq rfl) (hb hby at_62) (by show _ + 0 ≤ 16; omega) (by show _ + 0 ≤ 128; omega)
  obtain ⟨x10, hx10, hf⟩ := own_bind hf
  refine Gl.on (B := T9.setTop (mkF m 69 #[.val (.long j0), .second, .val (.long j2), .second, .val (.long j4), .second, .val (.long j6), .second, .val (.int i8), .val (.int i9), .val (.long t0), .second, .val (.ref (n0 + a3)), .val (.ref (n0 + a6))] [(.int (2 : Int32)), (.int x10)])) (fun t k => ?_) ?_
  · show Steps p.tables e below (T0.setTop (mkF m 26 #[.val (.long j0), .second, .val (.long j2), .second, .val (.long j4), .second, .val (.long j6), .second, .val (.int i8), .val (.int i9), .unset, .unset, .unset, .unset] [(.long t0)])) _
    refine XS.lstore X0.here hx rfl (hb hby at_26) rfl (l' := #[.val (.long j0), .second, .val (.long j2), .second, .val (.long j4), .second, .val (.long j6), .second, .val (.int i8), .val (.int i9), .val (.long t0), .second, .unset, .unset]) rfl ?_
    show Steps p.tables e below (T0.setTop (mkF m 28 #[.val (.long j0), .second, .val (.long j2), .second, .val (.long j4), .second, .val (.long j6), .second, .val (.int i8), .val (.int i9), .val (.long t0), .second, .unset, .unset] [])) _
    refine XS.iconst X0.here hx rfl (hb hby at_28) ?_
    show Steps p.tables e below (T0.setTop (mkF m 29 #[.val (.long j0), .second, .val (.long j2), .second, .val (.long j4), .second, .val (.long j6), .second, .val (.int i8), .val (.int i9), .val (.long t0), .second, .unset, .unset] [(.int (2 : Int32))])) _
    refine st3 _ ?_
    show Steps p.tables e below (T3.setTop (mkF m 31 #[.val (.long j0), .second, .val (.long j2), .second, .val (.long j4), .second, .val (.long j6), .second, .val (.int i8), .val (.int i9), .val (.long t0), .second, .unset, .unset] [(.ref (n0 + a3))])) _
    refine XS.dup X3.here hx rfl (hb hby at_31) rfl rfl ?_
    show Steps p.tables e below (T3.setTop (mkF m 32 #[.val (.long j0), .second, .val (.long j2), .second, .val (.long j4), .second, .val (.long j6), .second, .val (.int i8), .val (.int i9), .val (.long t0), .second, .unset, .unset] [(.ref (n0 + a3)), (.ref (n0 + a3))])) _
    refine XS.iconst X3.here hx rfl (hb hby at_32) ?_
    show Steps p.tables e below (T3.setTop (mkF m 33 #[.val (.long j0), .second, .val (.long j2), .second, .val (.long j4), .second, .val (.long j6), .second, .val (.int i8), .val (.int i9), .val (.long t0), .second, .unset, .unset] [(.int (0 : Int32)), (.ref (n0 + a3)), (.ref (n0 + a3))])) _
    refine XS.lloadN X3.here hx rfl (hb hby at_33) rfl ?_
    show Steps p.tables e below (T3.setTop (mkF m 34 #[.val (.long j0), .second, .val (.long j2), .second, .val (.long j4), .second, .val (.long j6), .second, .val (.int i8), .val (.int i9), .val (.long t0), .second, .unset, .unset] [(.long j0), (.int (0 : Int32)), (.ref (n0 + a3)), (.ref (n0 + a3))])) _
    refine st4 _ ?_
    show Steps p.tables e below (T4.setTop (mkF m 35 #[.val (.long j0), .second, .val (.long j2), .second, .val (.long j4), .second, .val (.long j6), .second, .val (.int i8), .val (.int i9), .val (.long t0), .second, .unset, .unset] [(.ref (n0 + a3))])) _
    refine XS.dup X4.here hx rfl (hb hby at_35) rfl rfl ?_
    show Steps p.tables e below (T4.setTop (mkF m 36 #[.val (.long j0), .second, .val (.long j2), .second, .val (.long j4), .second, .val (.long j6), .second, .val (.int i8), .val (.int i9), .val (.long t0), .second, .unset, .unset] [(.ref (n0 + a3)), (.ref (n0 + a3))])) _
    refine XS.iconst X4.here hx rfl (hb hby at_36) ?_
    show Steps p.tables e below (T4.setTop (mkF m 37 #[.val (.long j0), .second, .val (.long j2), .second, .val (.long j4), .second, .val (.long j6), .second, .val (.int i8), .val (.int i9), .val (.long t0), .second, .unset, .unset] [(.int (1 : Int32)), (.ref (n0 + a3)), (.ref (n0 + a3))])) _
    refine XS.lloadN X4.here hx rfl (hb hby at_37) rfl ?_
    show Steps p.tables e below (T4.setTop (mkF m 38 #[.val (.long j0), .second, .val (.long j2), .second, .val (.long j4), .second, .val (.long j6), .second, .val (.int i8), .val (.int i9), .val (.long t0), .second, .unset, .unset] [(.long j2), (.int (1 : Int32)), (.ref (n0 + a3)), (.ref (n0 + a3))])) _
    refine st5 _ ?_
    show Steps p.tables e below (T5.setTop (mkF m 39 #[.val (.long j0), .second, .val (.long j2), .second, .val (.long j4), .second, .val (.long j6), .second, .val (.int i8), .val (.int i9), .val (.long t0), .second, .unset, .unset] [(.ref (n0 + a3))])) _
    refine XS.astore X5.here hx rfl (hb hby at_39) rfl rfl (l' := #[.val (.long j0), .second, .val (.long j2), .second, .val (.long j4), .second, .val (.long j6), .second, .val (.int i8), .val (.int i9), .val (.long t0), .second, .val (.ref (n0 + a3)), .unset]) rfl ?_
    show Steps p.tables e below (T5.setTop (mkF m 41 #[.val (.long j0), .second, .val (.long j2), .second, .val (.long j4), .second, .val (.long j6), .second, .val (.int i8), .val (.int i9), .val (.long t0), .second, .val (.ref (n0 + a3)), .unset] [])) _
    refine XS.iconst X5.here hx rfl (hb hby at_41) ?_
    show Steps p.tables e below (T5.setTop (mkF m 42 #[.val (.long j0), .second, .val (.long j2), .second, .val (.long j4), .second, .val (.long j6), .second, .val (.int i8), .val (.int i9), .val (.long t0), .second, .val (.ref (n0 + a3)), .unset] [(.int (2 : Int32))])) _
    refine st6 _ ?_
    show Steps p.tables e below (T6.setTop (mkF m 44 #[.val (.long j0), .second, .val (.long j2), .second, .val (.long j4), .second, .val (.long j6), .second, .val (.int i8), .val (.int i9), .val (.long t0), .second, .val (.ref (n0 + a3)), .unset] [(.ref (n0 + a6))])) _
    refine XS.dup X6.here hx rfl (hb hby at_44) rfl rfl ?_
    show Steps p.tables e below (T6.setTop (mkF m 45 #[.val (.long j0), .second, .val (.long j2), .second, .val (.long j4), .second, .val (.long j6), .second, .val (.int i8), .val (.int i9), .val (.long t0), .second, .val (.ref (n0 + a3)), .unset] [(.ref (n0 + a6)), (.ref (n0 + a6))])) _
    refine XS.iconst X6.here hx rfl (hb hby at_45) ?_
    show Steps p.tables e below (T6.setTop (mkF m 46 #[.val (.long j0), .second, .val (.long j2), .second, .val (.long j4), .second, .val (.long j6), .second, .val (.int i8), .val (.int i9), .val (.long t0), .second, .val (.ref (n0 + a3)), .unset] [(.int (0 : Int32)), (.ref (n0 + a6)), (.ref (n0 + a6))])) _
    refine XS.lload X6.here hx rfl (hb hby at_46) rfl ?_
    show Steps p.tables e below (T6.setTop (mkF m 48 #[.val (.long j0), .second, .val (.long j2), .second, .val (.long j4), .second, .val (.long j6), .second, .val (.int i8), .val (.int i9), .val (.long t0), .second, .val (.ref (n0 + a3)), .unset] [(.long j4), (.int (0 : Int32)), (.ref (n0 + a6)), (.ref (n0 + a6))])) _
    refine st7 _ ?_
    show Steps p.tables e below (T7.setTop (mkF m 49 #[.val (.long j0), .second, .val (.long j2), .second, .val (.long j4), .second, .val (.long j6), .second, .val (.int i8), .val (.int i9), .val (.long t0), .second, .val (.ref (n0 + a3)), .unset] [(.ref (n0 + a6))])) _
    refine XS.dup X7.here hx rfl (hb hby at_49) rfl rfl ?_
    show Steps p.tables e below (T7.setTop (mkF m 50 #[.val (.long j0), .second, .val (.long j2), .second, .val (.long j4), .second, .val (.long j6), .second, .val (.int i8), .val (.int i9), .val (.long t0), .second, .val (.ref (n0 + a3)), .unset] [(.ref (n0 + a6)), (.ref (n0 + a6))])) _
    refine XS.iconst X7.here hx rfl (hb hby at_50) ?_
    show Steps p.tables e below (T7.setTop (mkF m 51 #[.val (.long j0), .second, .val (.long j2), .second, .val (.long j4), .second, .val (.long j6), .second, .val (.int i8), .val (.int i9), .val (.long t0), .second, .val (.ref (n0 + a3)), .unset] [(.int (1 : Int32)), (.ref (n0 + a6)), (.ref (n0 + a6))])) _
    refine XS.lload X7.here hx rfl (hb hby at_51) rfl ?_
    show Steps p.tables e below (T7.setTop (mkF m 53 #[.val (.long j0), .second, .val (.long j2), .second, .val (.long j4), .second, .val (.long j6), .second, .val (.int i8), .val (.int i9), .val (.long t0), .second, .val (.ref (n0 + a3)), .unset] [(.long j6), (.int (1 : Int32)), (.ref (n0 + a6)), (.ref (n0 + a6))])) _
    refine st8 _ ?_
    show Steps p.tables e below (T8.setTop (mkF m 54 #[.val (.long j0), .second, .val (.long j2), .second, .val (.long j4), .second, .val (.long j6), .second, .val (.int i8), .val (.int i9), .val (.long t0), .second, .val (.ref (n0 + a3)), .unset] [(.ref (n0 + a6))])) _
    refine XS.astore X8.here hx rfl (hb hby at_54) rfl rfl (l' := #[.val (.long j0), .second, .val (.long j2), .second, .val (.long j4), .second, .val (.long j6), .second, .val (.int i8), .val (.int i9), .val (.long t0), .second, .val (.ref (n0 + a3)), .val (.ref (n0 + a6))]) rfl ?_
    show Steps p.tables e below (T8.setTop (mkF m 56 #[.val (.long j0), .second, .val (.long j2), .second, .val (.long j4), .second, .val (.long j6), .second, .val (.int i8), .val (.int i9), .val (.long t0), .second, .val (.ref (n0 + a3)), .val (.ref (n0 + a6))] [])) _
    refine XS.aload X8.here hx rfl (hb hby at_56) rfl rfl ?_
    show Steps p.tables e below (T8.setTop (mkF m 58 #[.val (.long j0), .second, .val (.long j2), .second, .val (.long j4), .second, .val (.long j6), .second, .val (.int i8), .val (.int i9), .val (.long t0), .second, .val (.ref (n0 + a3)), .val (.ref (n0 + a6))] [(.ref (n0 + a3))])) _
    refine XS.aload X8.here hx rfl (hb hby at_58) rfl rfl ?_
    show Steps p.tables e below (T8.setTop (mkF m 60 #[.val (.long j0), .second, .val (.long j2), .second, .val (.long j4), .second, .val (.long j6), .second, .val (.int i8), .val (.int i9), .val (.long t0), .second, .val (.ref (n0 + a3)), .val (.ref (n0 + a6))] [(.ref (n0 + a6)), (.ref (n0 + a3))])) _
    refine XS.lload X8.here hx rfl (hb hby at_60) rfl ?_
    show Steps p.tables e below (T8.setTop (mkF m 62 #[.val (.long j0), .second, .val (.long j2), .second, .val (.long j4), .second, .val (.long j6), .second, .val (.int i8), .val (.int i9), .val (.long t0), .second, .val (.ref (n0 + a3)), .val (.ref (n0 + a6))] [(.long t0), (.ref (n0 + a6)), (.ref (n0 + a3))])) _
    refine st9 _ ?_
    show Steps p.tables e below (T9.setTop (mkF m 65 #[.val (.long j0), .second, .val (.long j2), .second, .val (.long j4), .second, .val (.long j6), .second, .val (.int i8), .val (.int i9), .val (.long t0), .second, .val (.ref (n0 + a3)), .val (.ref (n0 + a6))] [])) _
    refine XS.aload X9.here hx rfl (hb hby at_65) rfl rfl ?_
    show Steps p.tables e below (T9.setTop (mkF m 67 #[.val (.long j0), .second, .val (.long j2), .second, .val (.long j4), .second, .val (.long j6), .second, .val (.int i8), .val (.int i9), .val (.long t0), .second, .val (.ref (n0 + a3)), .val (.ref (n0 + a6))] [(.ref (n0 + a3))])) _
    refine lenW' X9 hx hZ e9 O9 hx10 (ty := .long) rfl (g := (mkF m 67 #[.val (.long j0), .second, .val (.long j2), .second, .val (.long j4), .second, .val (.long j6), .second, .val (.int i8), .val (.int i9), .val (.long t0), .second, .val (.ref (n0 + a3)), .val (.ref (n0 + a6))] [(.ref (n0 + a3))])) rfl rfl (hb hby at_67) _ ?_
    show Steps p.tables e below (T9.setTop (mkF m 68 #[.val (.long j0), .second, .val (.long j2), .second, .val (.long j4), .second, .val (.long j6), .second, .val (.int i8), .val (.int i9), .val (.long t0), .second, .val (.ref (n0 + a3)), .val (.ref (n0 + a6))] [(.int x10)])) _
    refine XS.iconst X9.here hx rfl (hb hby at_68) ?_
    exact k
  by_cases hc11 : x10 = (2 : Int32)
  · rw [if_pos hc11] at hf
    obtain ⟨x12, hx12, hf⟩ := own_bind hf
    refine Gl.on (B := T9.setTop (mkF m 76 #[.val (.long j0), .second, .val (.long j2), .second, .val (.long j4), .second, .val (.long j6), .second, .val (.int i8), .val (.int i9), .val (.long t0), .second, .val (.ref (n0 + a3)), .val (.ref (n0 + a6))] [(.int (2 : Int32)), (.int x12)])) (fun t k => ?_) ?_
    · show Steps p.tables e below (T9.setTop (mkF m 69 #[.val (.long j0), .second, .val (.long j2), .second, .val (.long j4), .second, .val (.long j6), .second, .val (.int i8), .val (.int i9), .val (.long t0), .second, .val (.ref (n0 + a3)), .val (.ref (n0 + a6))] [(.int (2 : Int32)), (.int x10)])) _
      refine XS.icmpNo X9.here hx rfl (hb hby at_69) rfl (teq hc11).2 ?_
      show Steps p.tables e below (T9.setTop (mkF m 72 #[.val (.long j0), .second, .val (.long j2), .second, .val (.long j4), .second, .val (.long j6), .second, .val (.int i8), .val (.int i9), .val (.long t0), .second, .val (.ref (n0 + a3)), .val (.ref (n0 + a6))] [])) _
      refine XS.aload X9.here hx rfl (hb hby at_72) rfl rfl ?_
      show Steps p.tables e below (T9.setTop (mkF m 74 #[.val (.long j0), .second, .val (.long j2), .second, .val (.long j4), .second, .val (.long j6), .second, .val (.int i8), .val (.int i9), .val (.long t0), .second, .val (.ref (n0 + a3)), .val (.ref (n0 + a6))] [(.ref (n0 + a6))])) _
      refine lenW' X9 hx hZ e9 O9 hx12 (ty := .long) rfl (g := (mkF m 74 #[.val (.long j0), .second, .val (.long j2), .second, .val (.long j4), .second, .val (.long j6), .second, .val (.int i8), .val (.int i9), .val (.long t0), .second, .val (.ref (n0 + a3)), .val (.ref (n0 + a6))] [(.ref (n0 + a6))])) rfl rfl (hb hby at_74) _ ?_
      show Steps p.tables e below (T9.setTop (mkF m 75 #[.val (.long j0), .second, .val (.long j2), .second, .val (.long j4), .second, .val (.long j6), .second, .val (.int i8), .val (.int i9), .val (.long t0), .second, .val (.ref (n0 + a3)), .val (.ref (n0 + a6))] [(.int x12)])) _
      refine XS.iconst X9.here hx rfl (hb hby at_75) ?_
      exact k
    by_cases hc13 : x12 = (2 : Int32)
    · rw [if_pos hc13] at hf
      refine Gl.on (B := T9.setTop (mkF m 83 #[.val (.long j0), .second, .val (.long j2), .second, .val (.long j4), .second, .val (.long j6), .second, .val (.int i8), .val (.int i9), .val (.long t0), .second, .val (.ref (n0 + a3)), .val (.ref (n0 + a6))] [(.int i9)])) (fun t k => ?_) ?_
      · show Steps p.tables e below (T9.setTop (mkF m 76 #[.val (.long j0), .second, .val (.long j2), .second, .val (.long j4), .second, .val (.long j6), .second, .val (.int i8), .val (.int i9), .val (.long t0), .second, .val (.ref (n0 + a3)), .val (.ref (n0 + a6))] [(.int (2 : Int32)), (.int x12)])) _
        refine XS.icmpYes X9.here hx rfl (pc0 := 76) (pc' := 81) rfl (hb hby at_76) rfl (teq hc13).1 (by decide) (by decide) ?_
        show Steps p.tables e below (T9.setTop (mkF m 81 #[.val (.long j0), .second, .val (.long j2), .second, .val (.long j4), .second, .val (.long j6), .second, .val (.int i8), .val (.int i9), .val (.long t0), .second, .val (.ref (n0 + a3)), .val (.ref (n0 + a6))] [])) _
        refine XS.iload X9.here hx rfl (hb hby at_81) rfl ?_
        exact k
      by_cases hc14 : i9 = (0 : Int32)
      · rw [if_pos hc14] at hf
        obtain ⟨x15, hx15, hf⟩ := own_bind hf
        refine Gl.on (B := T9.setTop (mkF m 136 #[.val (.long j0), .second, .val (.long j2), .second, .val (.long j4), .second, .val (.long j6), .second, .val (.int i8), .val (.int i9), .val (.long t0), .second, .val (.ref (n0 + a3)), .val (.ref (n0 + a6))] [(.int (lcmpW x15 j0))])) (fun t k => ?_) ?_
        · show Steps p.tables e below (T9.setTop (mkF m 83 #[.val (.long j0), .second, .val (.long j2), .second, .val (.long j4), .second, .val (.long j6), .second, .val (.int i8), .val (.int i9), .val (.long t0), .second, .val (.ref (n0 + a3)), .val (.ref (n0 + a6))] [(.int i9)])) _
          refine XS.ifYes X9.here hx rfl (pc0 := 83) (pc' := 130) rfl (hb hby at_83) rfl ((if0 _ _).trans (teq hc14).1) (by decide) (by decide) ?_
          show Steps p.tables e below (T9.setTop (mkF m 130 #[.val (.long j0), .second, .val (.long j2), .second, .val (.long j4), .second, .val (.long j6), .second, .val (.int i8), .val (.int i9), .val (.long t0), .second, .val (.ref (n0 + a3)), .val (.ref (n0 + a6))] [])) _
          refine XS.aload X9.here hx rfl (hb hby at_130) rfl rfl ?_
          show Steps p.tables e below (T9.setTop (mkF m 132 #[.val (.long j0), .second, .val (.long j2), .second, .val (.long j4), .second, .val (.long j6), .second, .val (.int i8), .val (.int i9), .val (.long t0), .second, .val (.ref (n0 + a3)), .val (.ref (n0 + a6))] [(.ref (n0 + a3))])) _
          refine XS.iconst X9.here hx rfl (hb hby at_132) ?_
          show Steps p.tables e below (T9.setTop (mkF m 133 #[.val (.long j0), .second, .val (.long j2), .second, .val (.long j4), .second, .val (.long j6), .second, .val (.int i8), .val (.int i9), .val (.long t0), .second, .val (.ref (n0 + a3)), .val (.ref (n0 + a6))] [(.int (0 : Int32)), (.ref (n0 + a3))])) _
          refine ldJ X9 hx hZ e9 O9 hx15 rfl (g := (mkF m 133 #[.val (.long j0), .second, .val (.long j2), .second, .val (.long j4), .second, .val (.long j6), .second, .val (.int i8), .val (.int i9), .val (.long t0), .second, .val (.ref (n0 + a3)), .val (.ref (n0 + a6))] [(.int (0 : Int32)), (.ref (n0 + a3))])) rfl rfl (hb hby at_133) _ ?_
          show Steps p.tables e below (T9.setTop (mkF m 134 #[.val (.long j0), .second, .val (.long j2), .second, .val (.long j4), .second, .val (.long j6), .second, .val (.int i8), .val (.int i9), .val (.long t0), .second, .val (.ref (n0 + a3)), .val (.ref (n0 + a6))] [(.long x15)])) _
          refine XS.lloadN X9.here hx rfl (hb hby at_134) rfl ?_
          show Steps p.tables e below (T9.setTop (mkF m 135 #[.val (.long j0), .second, .val (.long j2), .second, .val (.long j4), .second, .val (.long j6), .second, .val (.int i8), .val (.int i9), .val (.long t0), .second, .val (.ref (n0 + a3)), .val (.ref (n0 + a6))] [(.long j0), (.long x15)])) _
          refine XS.lcmp X9.here hx rfl (hb hby at_135) rfl ?_
          exact k
        by_cases hc16 : x15 = j0
        · rw [if_pos hc16] at hf
          obtain ⟨x17, hx17, hf⟩ := own_bind hf
          refine Gl.on (B := T9.setTop (mkF m 145 #[.val (.long j0), .second, .val (.long j2), .second, .val (.long j4), .second, .val (.long j6), .second, .val (.int i8), .val (.int i9), .val (.long t0), .second, .val (.ref (n0 + a3)), .val (.ref (n0 + a6))] [(.int (lcmpW x17 j2))])) (fun t k => ?_) ?_
          · show Steps p.tables e below (T9.setTop (mkF m 136 #[.val (.long j0), .second, .val (.long j2), .second, .val (.long j4), .second, .val (.long j6), .second, .val (.int i8), .val (.int i9), .val (.long t0), .second, .val (.ref (n0 + a3)), .val (.ref (n0 + a6))] [(.int (lcmpW x15 j0))])) _
            refine XS.ifNo X9.here hx rfl (hb hby at_136) rfl ((if0 _ _).trans (teq ((lw_eq _ _).mpr hc16)).2) ?_
            show Steps p.tables e below (T9.setTop (mkF m 139 #[.val (.long j0), .second, .val (.long j2), .second, .val (.long j4), .second, .val (.long j6), .second, .val (.int i8), .val (.int i9), .val (.long t0), .second, .val (.ref (n0 + a3)), .val (.ref (n0 + a6))] [])) _
            refine XS.aload X9.here hx rfl (hb hby at_139) rfl rfl ?_
            show Steps p.tables e below (T9.setTop (mkF m 141 #[.val (.long j0), .second, .val (.long j2), .second, .val (.long j4), .second, .val (.long j6), .second, .val (.int i8), .val (.int i9), .val (.long t0), .second, .val (.ref (n0 + a3)), .val (.ref (n0 + a6))] [(.ref (n0 + a3))])) _
            refine XS.iconst X9.here hx rfl (hb hby at_141) ?_
            show Steps p.tables e below (T9.setTop (mkF m 142 #[.val (.long j0), .second, .val (.long j2), .second, .val (.long j4), .second, .val (.long j6), .second, .val (.int i8), .val (.int i9), .val (.long t0), .second, .val (.ref (n0 + a3)), .val (.ref (n0 + a6))] [(.int (1 : Int32)), (.ref (n0 + a3))])) _
            refine ldJ X9 hx hZ e9 O9 hx17 rfl (g := (mkF m 142 #[.val (.long j0), .second, .val (.long j2), .second, .val (.long j4), .second, .val (.long j6), .second, .val (.int i8), .val (.int i9), .val (.long t0), .second, .val (.ref (n0 + a3)), .val (.ref (n0 + a6))] [(.int (1 : Int32)), (.ref (n0 + a3))])) rfl rfl (hb hby at_142) _ ?_
            show Steps p.tables e below (T9.setTop (mkF m 143 #[.val (.long j0), .second, .val (.long j2), .second, .val (.long j4), .second, .val (.long j6), .second, .val (.int i8), .val (.int i9), .val (.long t0), .second, .val (.ref (n0 + a3)), .val (.ref (n0 + a6))] [(.long x17)])) _
            refine XS.lloadN X9.here hx rfl (hb hby at_143) rfl ?_
            show Steps p.tables e below (T9.setTop (mkF m 144 #[.val (.long j0), .second, .val (.long j2), .second, .val (.long j4), .second, .val (.long j6), .second, .val (.int i8), .val (.int i9), .val (.long t0), .second, .val (.ref (n0 + a3)), .val (.ref (n0 + a6))] [(.long j2), (.long x17)])) _
            refine XS.lcmp X9.here hx rfl (hb hby at_144) rfl ?_
            exact k
          by_cases hc18 : x17 = j2
          · rw [if_pos hc18] at hf
            obtain ⟨x19, hx19, hf⟩ := own_bind hf
            refine Gl.on (B := T9.setTop (mkF m 155 #[.val (.long j0), .second, .val (.long j2), .second, .val (.long j4), .second, .val (.long j6), .second, .val (.int i8), .val (.int i9), .val (.long t0), .second, .val (.ref (n0 + a3)), .val (.ref (n0 + a6))] [(.int (lcmpW x19 j4))])) (fun t k => ?_) ?_
            · show Steps p.tables e below (T9.setTop (mkF m 145 #[.val (.long j0), .second, .val (.long j2), .second, .val (.long j4), .second, .val (.long j6), .second, .val (.int i8), .val (.int i9), .val (.long t0), .second, .val (.ref (n0 + a3)), .val (.ref (n0 + a6))] [(.int (lcmpW x17 j2))])) _
              refine XS.ifNo X9.here hx rfl (hb hby at_145) rfl ((if0 _ _).trans (teq ((lw_eq _ _).mpr hc18)).2) ?_
              show Steps p.tables e below (T9.setTop (mkF m 148 #[.val (.long j0), .second, .val (.long j2), .second, .val (.long j4), .second, .val (.long j6), .second, .val (.int i8), .val (.int i9), .val (.long t0), .second, .val (.ref (n0 + a3)), .val (.ref (n0 + a6))] [])) _
              refine XS.aload X9.here hx rfl (hb hby at_148) rfl rfl ?_
              show Steps p.tables e below (T9.setTop (mkF m 150 #[.val (.long j0), .second, .val (.long j2), .second, .val (.long j4), .second, .val (.long j6), .second, .val (.int i8), .val (.int i9), .val (.long t0), .second, .val (.ref (n0 + a3)), .val (.ref (n0 + a6))] [(.ref (n0 + a6))])) _
              refine XS.iconst X9.here hx rfl (hb hby at_150) ?_
              show Steps p.tables e below (T9.setTop (mkF m 151 #[.val (.long j0), .second, .val (.long j2), .second, .val (.long j4), .second, .val (.long j6), .second, .val (.int i8), .val (.int i9), .val (.long t0), .second, .val (.ref (n0 + a3)), .val (.ref (n0 + a6))] [(.int (0 : Int32)), (.ref (n0 + a6))])) _
              refine ldJ X9 hx hZ e9 O9 hx19 rfl (g := (mkF m 151 #[.val (.long j0), .second, .val (.long j2), .second, .val (.long j4), .second, .val (.long j6), .second, .val (.int i8), .val (.int i9), .val (.long t0), .second, .val (.ref (n0 + a3)), .val (.ref (n0 + a6))] [(.int (0 : Int32)), (.ref (n0 + a6))])) rfl rfl (hb hby at_151) _ ?_
              show Steps p.tables e below (T9.setTop (mkF m 152 #[.val (.long j0), .second, .val (.long j2), .second, .val (.long j4), .second, .val (.long j6), .second, .val (.int i8), .val (.int i9), .val (.long t0), .second, .val (.ref (n0 + a3)), .val (.ref (n0 + a6))] [(.long x19)])) _
              refine XS.lload X9.here hx rfl (hb hby at_152) rfl ?_
              show Steps p.tables e below (T9.setTop (mkF m 154 #[.val (.long j0), .second, .val (.long j2), .second, .val (.long j4), .second, .val (.long j6), .second, .val (.int i8), .val (.int i9), .val (.long t0), .second, .val (.ref (n0 + a3)), .val (.ref (n0 + a6))] [(.long j4), (.long x19)])) _
              refine XS.lcmp X9.here hx rfl (hb hby at_154) rfl ?_
              exact k
            by_cases hc20 : x19 = j4
            · rw [if_pos hc20] at hf
              obtain ⟨x21, hx21, hf⟩ := own_bind hf
              refine Gl.on (B := T9.setTop (mkF m 165 #[.val (.long j0), .second, .val (.long j2), .second, .val (.long j4), .second, .val (.long j6), .second, .val (.int i8), .val (.int i9), .val (.long t0), .second, .val (.ref (n0 + a3)), .val (.ref (n0 + a6))] [(.int (lcmpW x21 j6))])) (fun t k => ?_) ?_
              · show Steps p.tables e below (T9.setTop (mkF m 155 #[.val (.long j0), .second, .val (.long j2), .second, .val (.long j4), .second, .val (.long j6), .second, .val (.int i8), .val (.int i9), .val (.long t0), .second, .val (.ref (n0 + a3)), .val (.ref (n0 + a6))] [(.int (lcmpW x19 j4))])) _
                refine XS.ifNo X9.here hx rfl (hb hby at_155) rfl ((if0 _ _).trans (teq ((lw_eq _ _).mpr hc20)).2) ?_
                show Steps p.tables e below (T9.setTop (mkF m 158 #[.val (.long j0), .second, .val (.long j2), .second, .val (.long j4), .second, .val (.long j6), .second, .val (.int i8), .val (.int i9), .val (.long t0), .second, .val (.ref (n0 + a3)), .val (.ref (n0 + a6))] [])) _
                refine XS.aload X9.here hx rfl (hb hby at_158) rfl rfl ?_
                show Steps p.tables e below (T9.setTop (mkF m 160 #[.val (.long j0), .second, .val (.long j2), .second, .val (.long j4), .second, .val (.long j6), .second, .val (.int i8), .val (.int i9), .val (.long t0), .second, .val (.ref (n0 + a3)), .val (.ref (n0 + a6))] [(.ref (n0 + a6))])) _
                refine XS.iconst X9.here hx rfl (hb hby at_160) ?_
                show Steps p.tables e below (T9.setTop (mkF m 161 #[.val (.long j0), .second, .val (.long j2), .second, .val (.long j4), .second, .val (.long j6), .second, .val (.int i8), .val (.int i9), .val (.long t0), .second, .val (.ref (n0 + a3)), .val (.ref (n0 + a6))] [(.int (1 : Int32)), (.ref (n0 + a6))])) _
                refine ldJ X9 hx hZ e9 O9 hx21 rfl (g := (mkF m 161 #[.val (.long j0), .second, .val (.long j2), .second, .val (.long j4), .second, .val (.long j6), .second, .val (.int i8), .val (.int i9), .val (.long t0), .second, .val (.ref (n0 + a3)), .val (.ref (n0 + a6))] [(.int (1 : Int32)), (.ref (n0 + a6))])) rfl rfl (hb hby at_161) _ ?_
                show Steps p.tables e below (T9.setTop (mkF m 162 #[.val (.long j0), .second, .val (.long j2), .second, .val (.long j4), .second, .val (.long j6), .second, .val (.int i8), .val (.int i9), .val (.long t0), .second, .val (.ref (n0 + a3)), .val (.ref (n0 + a6))] [(.long x21)])) _
                refine XS.lload X9.here hx rfl (hb hby at_162) rfl ?_
                show Steps p.tables e below (T9.setTop (mkF m 164 #[.val (.long j0), .second, .val (.long j2), .second, .val (.long j4), .second, .val (.long j6), .second, .val (.int i8), .val (.int i9), .val (.long t0), .second, .val (.ref (n0 + a3)), .val (.ref (n0 + a6))] [(.long j6), (.long x21)])) _
                refine XS.lcmp X9.here hx rfl (hb hby at_164) rfl ?_
                exact k
              by_cases hc22 : x21 = j6
              · rw [if_pos hc22] at hf
                refine Gl.on (B := T9.setTop (mkF m 173 #[.val (.long j0), .second, .val (.long j2), .second, .val (.long j4), .second, .val (.long j6), .second, .val (.int i8), .val (.int i9), .val (.long t0), .second, .val (.ref (n0 + a3)), .val (.ref (n0 + a6))] [(.int (1 : Int32))])) (fun t k => ?_) ?_
                · show Steps p.tables e below (T9.setTop (mkF m 165 #[.val (.long j0), .second, .val (.long j2), .second, .val (.long j4), .second, .val (.long j6), .second, .val (.int i8), .val (.int i9), .val (.long t0), .second, .val (.ref (n0 + a3)), .val (.ref (n0 + a6))] [(.int (lcmpW x21 j6))])) _
                  refine XS.ifNo X9.here hx rfl (hb hby at_165) rfl ((if0 _ _).trans (teq ((lw_eq _ _).mpr hc22)).2) ?_
                  show Steps p.tables e below (T9.setTop (mkF m 168 #[.val (.long j0), .second, .val (.long j2), .second, .val (.long j4), .second, .val (.long j6), .second, .val (.int i8), .val (.int i9), .val (.long t0), .second, .val (.ref (n0 + a3)), .val (.ref (n0 + a6))] [])) _
                  refine XS.iconst X9.here hx rfl (hb hby at_168) ?_
                  show Steps p.tables e below (T9.setTop (mkF m 169 #[.val (.long j0), .second, .val (.long j2), .second, .val (.long j4), .second, .val (.long j6), .second, .val (.int i8), .val (.int i9), .val (.long t0), .second, .val (.ref (n0 + a3)), .val (.ref (n0 + a6))] [(.int (1 : Int32))])) _
                  refine XS.goto X9.here hx rfl (pc0 := 169) (pc' := 173) rfl (hb hby at_169) (by decide) (by decide) ?_
                  exact k
                obtain ⟨rfl, rfl⟩ := own_inj hf
                exact Gl.outN X9 hx hlk (t := .boolean) hret (by simp) (hb hby at_173) ⟨rfl, N9, by rw [e9]; exact O9⟩ (by show _ ≤ 16; omega) (by show _ ≤ 128; omega)
              · rw [if_neg hc22] at hf
                refine Gl.on (B := T9.setTop (mkF m 173 #[.val (.long j0), .second, .val (.long j2), .second, .val (.long j4), .second, .val (.long j6), .second, .val (.int i8), .val (.int i9), .val (.long t0), .second, .val (.ref (n0 + a3)), .val (.ref (n0 + a6))] [(.int (0 : Int32))])) (fun t k => ?_) ?_
                · show Steps p.tables e below (T9.setTop (mkF m 165 #[.val (.long j0), .second, .val (.long j2), .second, .val (.long j4), .second, .val (.long j6), .second, .val (.int i8), .val (.int i9), .val (.long t0), .second, .val (.ref (n0 + a3)), .val (.ref (n0 + a6))] [(.int (lcmpW x21 j6))])) _
                  refine XS.ifYes X9.here hx rfl (pc0 := 165) (pc' := 172) rfl (hb hby at_165) rfl ((if0 _ _).trans (feq (mt (lw_eq _ _).mp hc22)).2) (by decide) (by decide) ?_
                  show Steps p.tables e below (T9.setTop (mkF m 172 #[.val (.long j0), .second, .val (.long j2), .second, .val (.long j4), .second, .val (.long j6), .second, .val (.int i8), .val (.int i9), .val (.long t0), .second, .val (.ref (n0 + a3)), .val (.ref (n0 + a6))] [])) _
                  refine XS.iconst X9.here hx rfl (hb hby at_172) ?_
                  exact k
                obtain ⟨rfl, rfl⟩ := own_inj hf
                exact Gl.outN X9 hx hlk (t := .boolean) hret (by simp) (hb hby at_173) ⟨rfl, N9, by rw [e9]; exact O9⟩ (by show _ ≤ 16; omega) (by show _ ≤ 128; omega)
            · rw [if_neg hc20] at hf
              refine Gl.on (B := T9.setTop (mkF m 173 #[.val (.long j0), .second, .val (.long j2), .second, .val (.long j4), .second, .val (.long j6), .second, .val (.int i8), .val (.int i9), .val (.long t0), .second, .val (.ref (n0 + a3)), .val (.ref (n0 + a6))] [(.int (0 : Int32))])) (fun t k => ?_) ?_
              · show Steps p.tables e below (T9.setTop (mkF m 155 #[.val (.long j0), .second, .val (.long j2), .second, .val (.long j4), .second, .val (.long j6), .second, .val (.int i8), .val (.int i9), .val (.long t0), .second, .val (.ref (n0 + a3)), .val (.ref (n0 + a6))] [(.int (lcmpW x19 j4))])) _
                refine XS.ifYes X9.here hx rfl (pc0 := 155) (pc' := 172) rfl (hb hby at_155) rfl ((if0 _ _).trans (feq (mt (lw_eq _ _).mp hc20)).2) (by decide) (by decide) ?_
                show Steps p.tables e below (T9.setTop (mkF m 172 #[.val (.long j0), .second, .val (.long j2), .second, .val (.long j4), .second, .val (.long j6), .second, .val (.int i8), .val (.int i9), .val (.long t0), .second, .val (.ref (n0 + a3)), .val (.ref (n0 + a6))] [])) _
                refine XS.iconst X9.here hx rfl (hb hby at_172) ?_
                exact k
              obtain ⟨rfl, rfl⟩ := own_inj hf
              exact Gl.outN X9 hx hlk (t := .boolean) hret (by simp) (hb hby at_173) ⟨rfl, N9, by rw [e9]; exact O9⟩ (by show _ ≤ 16; omega) (by show _ ≤ 128; omega)
          · rw [if_neg hc18] at hf
            refine Gl.on (B := T9.setTop (mkF m 173 #[.val (.long j0), .second, .val (.long j2), .second, .val (.long j4), .second, .val (.long j6), .second, .val (.int i8), .val (.int i9), .val (.long t0), .second, .val (.ref (n0 + a3)), .val (.ref (n0 + a6))] [(.int (0 : Int32))])) (fun t k => ?_) ?_
            · show Steps p.tables e below (T9.setTop (mkF m 145 #[.val (.long j0), .second, .val (.long j2), .second, .val (.long j4), .second, .val (.long j6), .second, .val (.int i8), .val (.int i9), .val (.long t0), .second, .val (.ref (n0 + a3)), .val (.ref (n0 + a6))] [(.int (lcmpW x17 j2))])) _
              refine XS.ifYes X9.here hx rfl (pc0 := 145) (pc' := 172) rfl (hb hby at_145) rfl ((if0 _ _).trans (feq (mt (lw_eq _ _).mp hc18)).2) (by decide) (by decide) ?_
              show Steps p.tables e below (T9.setTop (mkF m 172 #[.val (.long j0), .second, .val (.long j2), .second, .val (.long j4), .second, .val (.long j6), .second, .val (.int i8), .val (.int i9), .val (.long t0), .second, .val (.ref (n0 + a3)), .val (.ref (n0 + a6))] [])) _
              refine XS.iconst X9.here hx rfl (hb hby at_172) ?_
              exact k
            obtain ⟨rfl, rfl⟩ := own_inj hf
            exact Gl.outN X9 hx hlk (t := .boolean) hret (by simp) (hb hby at_173) ⟨rfl, N9, by rw [e9]; exact O9⟩ (by show _ ≤ 16; omega) (by show _ ≤ 128; omega)
        · rw [if_neg hc16] at hf
          refine Gl.on (B := T9.setTop (mkF m 173 #[.val (.long j0), .second, .val (.long j2), .second, .val (.long j4), .second, .val (.long j6), .second, .val (.int i8), .val (.int i9), .val (.long t0), .second, .val (.ref (n0 + a3)), .val (.ref (n0 + a6))] [(.int (0 : Int32))])) (fun t k => ?_) ?_
          · show Steps p.tables e below (T9.setTop (mkF m 136 #[.val (.long j0), .second, .val (.long j2), .second, .val (.long j4), .second, .val (.long j6), .second, .val (.int i8), .val (.int i9), .val (.long t0), .second, .val (.ref (n0 + a3)), .val (.ref (n0 + a6))] [(.int (lcmpW x15 j0))])) _
            refine XS.ifYes X9.here hx rfl (pc0 := 136) (pc' := 172) rfl (hb hby at_136) rfl ((if0 _ _).trans (feq (mt (lw_eq _ _).mp hc16)).2) (by decide) (by decide) ?_
            show Steps p.tables e below (T9.setTop (mkF m 172 #[.val (.long j0), .second, .val (.long j2), .second, .val (.long j4), .second, .val (.long j6), .second, .val (.int i8), .val (.int i9), .val (.long t0), .second, .val (.ref (n0 + a3)), .val (.ref (n0 + a6))] [])) _
            refine XS.iconst X9.here hx rfl (hb hby at_172) ?_
            exact k
          obtain ⟨rfl, rfl⟩ := own_inj hf
          exact Gl.outN X9 hx hlk (t := .boolean) hret (by simp) (hb hby at_173) ⟨rfl, N9, by rw [e9]; exact O9⟩ (by show _ ≤ 16; omega) (by show _ ≤ 128; omega)
      · rw [if_neg hc14] at hf
        obtain ⟨x23, hx23, hf⟩ := own_bind hf
        refine Gl.on (B := T9.setTop (mkF m 93 #[.val (.long j0), .second, .val (.long j2), .second, .val (.long j4), .second, .val (.long j6), .second, .val (.int i8), .val (.int i9), .val (.long t0), .second, .val (.ref (n0 + a3)), .val (.ref (n0 + a6))] [(.int (lcmpW x23 j4))])) (fun t k => ?_) ?_
        · show Steps p.tables e below (T9.setTop (mkF m 83 #[.val (.long j0), .second, .val (.long j2), .second, .val (.long j4), .second, .val (.long j6), .second, .val (.int i8), .val (.int i9), .val (.long t0), .second, .val (.ref (n0 + a3)), .val (.ref (n0 + a6))] [(.int i9)])) _
          refine XS.ifNo X9.here hx rfl (hb hby at_83) rfl ((if0 _ _).trans (feq hc14).1) ?_
          show Steps p.tables e below (T9.setTop (mkF m 86 #[.val (.long j0), .second, .val (.long j2), .second, .val (.long j4), .second, .val (.long j6), .second, .val (.int i8), .val (.int i9), .val (.long t0), .second, .val (.ref (n0 + a3)), .val (.ref (n0 + a6))] [])) _
          refine XS.aload X9.here hx rfl (hb hby at_86) rfl rfl ?_
          show Steps p.tables e below (T9.setTop (mkF m 88 #[.val (.long j0), .second, .val (.long j2), .second, .val (.long j4), .second, .val (.long j6), .second, .val (.int i8), .val (.int i9), .val (.long t0), .second, .val (.ref (n0 + a3)), .val (.ref (n0 + a6))] [(.ref (n0 + a3))])) _
          refine XS.iconst X9.here hx rfl (hb hby at_88) ?_
          show Steps p.tables e below (T9.setTop (mkF m 89 #[.val (.long j0), .second, .val (.long j2), .second, .val (.long j4), .second, .val (.long j6), .second, .val (.int i8), .val (.int i9), .val (.long t0), .second, .val (.ref (n0 + a3)), .val (.ref (n0 + a6))] [(.int (0 : Int32)), (.ref (n0 + a3))])) _
          refine ldJ X9 hx hZ e9 O9 hx23 rfl (g := (mkF m 89 #[.val (.long j0), .second, .val (.long j2), .second, .val (.long j4), .second, .val (.long j6), .second, .val (.int i8), .val (.int i9), .val (.long t0), .second, .val (.ref (n0 + a3)), .val (.ref (n0 + a6))] [(.int (0 : Int32)), (.ref (n0 + a3))])) rfl rfl (hb hby at_89) _ ?_
          show Steps p.tables e below (T9.setTop (mkF m 90 #[.val (.long j0), .second, .val (.long j2), .second, .val (.long j4), .second, .val (.long j6), .second, .val (.int i8), .val (.int i9), .val (.long t0), .second, .val (.ref (n0 + a3)), .val (.ref (n0 + a6))] [(.long x23)])) _
          refine XS.lload X9.here hx rfl (hb hby at_90) rfl ?_
          show Steps p.tables e below (T9.setTop (mkF m 92 #[.val (.long j0), .second, .val (.long j2), .second, .val (.long j4), .second, .val (.long j6), .second, .val (.int i8), .val (.int i9), .val (.long t0), .second, .val (.ref (n0 + a3)), .val (.ref (n0 + a6))] [(.long j4), (.long x23)])) _
          refine XS.lcmp X9.here hx rfl (hb hby at_92) rfl ?_
          exact k
        by_cases hc24 : x23 = j4
        · rw [if_pos hc24] at hf
          obtain ⟨x25, hx25, hf⟩ := own_bind hf
          refine Gl.on (B := T9.setTop (mkF m 103 #[.val (.long j0), .second, .val (.long j2), .second, .val (.long j4), .second, .val (.long j6), .second, .val (.int i8), .val (.int i9), .val (.long t0), .second, .val (.ref (n0 + a3)), .val (.ref (n0 + a6))] [(.int (lcmpW x25 j6))])) (fun t k => ?_) ?_
          · show Steps p.tables e below (T9.setTop (mkF m 93 #[.val (.long j0), .second, .val (.long j2), .second, .val (.long j4), .second, .val (.long j6), .second, .val (.int i8), .val (.int i9), .val (.long t0), .second, .val (.ref (n0 + a3)), .val (.ref (n0 + a6))] [(.int (lcmpW x23 j4))])) _
            refine XS.ifNo X9.here hx rfl (hb hby at_93) rfl ((if0 _ _).trans (teq ((lw_eq _ _).mpr hc24)).2) ?_
            show Steps p.tables e below (T9.setTop (mkF m 96 #[.val (.long j0), .second, .val (.long j2), .second, .val (.long j4), .second, .val (.long j6), .second, .val (.int i8), .val (.int i9), .val (.long t0), .second, .val (.ref (n0 + a3)), .val (.ref (n0 + a6))] [])) _
            refine XS.aload X9.here hx rfl (hb hby at_96) rfl rfl ?_
            show Steps p.tables e below (T9.setTop (mkF m 98 #[.val (.long j0), .second, .val (.long j2), .second, .val (.long j4), .second, .val (.long j6), .second, .val (.int i8), .val (.int i9), .val (.long t0), .second, .val (.ref (n0 + a3)), .val (.ref (n0 + a6))] [(.ref (n0 + a3))])) _
            refine XS.iconst X9.here hx rfl (hb hby at_98) ?_
            show Steps p.tables e below (T9.setTop (mkF m 99 #[.val (.long j0), .second, .val (.long j2), .second, .val (.long j4), .second, .val (.long j6), .second, .val (.int i8), .val (.int i9), .val (.long t0), .second, .val (.ref (n0 + a3)), .val (.ref (n0 + a6))] [(.int (1 : Int32)), (.ref (n0 + a3))])) _
            refine ldJ X9 hx hZ e9 O9 hx25 rfl (g := (mkF m 99 #[.val (.long j0), .second, .val (.long j2), .second, .val (.long j4), .second, .val (.long j6), .second, .val (.int i8), .val (.int i9), .val (.long t0), .second, .val (.ref (n0 + a3)), .val (.ref (n0 + a6))] [(.int (1 : Int32)), (.ref (n0 + a3))])) rfl rfl (hb hby at_99) _ ?_
            show Steps p.tables e below (T9.setTop (mkF m 100 #[.val (.long j0), .second, .val (.long j2), .second, .val (.long j4), .second, .val (.long j6), .second, .val (.int i8), .val (.int i9), .val (.long t0), .second, .val (.ref (n0 + a3)), .val (.ref (n0 + a6))] [(.long x25)])) _
            refine XS.lload X9.here hx rfl (hb hby at_100) rfl ?_
            show Steps p.tables e below (T9.setTop (mkF m 102 #[.val (.long j0), .second, .val (.long j2), .second, .val (.long j4), .second, .val (.long j6), .second, .val (.int i8), .val (.int i9), .val (.long t0), .second, .val (.ref (n0 + a3)), .val (.ref (n0 + a6))] [(.long j6), (.long x25)])) _
            refine XS.lcmp X9.here hx rfl (hb hby at_102) rfl ?_
            exact k
          by_cases hc26 : x25 = j6
          · rw [if_pos hc26] at hf
            obtain ⟨x27, hx27, hf⟩ := own_bind hf
            refine Gl.on (B := T9.setTop (mkF m 112 #[.val (.long j0), .second, .val (.long j2), .second, .val (.long j4), .second, .val (.long j6), .second, .val (.int i8), .val (.int i9), .val (.long t0), .second, .val (.ref (n0 + a3)), .val (.ref (n0 + a6))] [(.int (lcmpW x27 j0))])) (fun t k => ?_) ?_
            · show Steps p.tables e below (T9.setTop (mkF m 103 #[.val (.long j0), .second, .val (.long j2), .second, .val (.long j4), .second, .val (.long j6), .second, .val (.int i8), .val (.int i9), .val (.long t0), .second, .val (.ref (n0 + a3)), .val (.ref (n0 + a6))] [(.int (lcmpW x25 j6))])) _
              refine XS.ifNo X9.here hx rfl (hb hby at_103) rfl ((if0 _ _).trans (teq ((lw_eq _ _).mpr hc26)).2) ?_
              show Steps p.tables e below (T9.setTop (mkF m 106 #[.val (.long j0), .second, .val (.long j2), .second, .val (.long j4), .second, .val (.long j6), .second, .val (.int i8), .val (.int i9), .val (.long t0), .second, .val (.ref (n0 + a3)), .val (.ref (n0 + a6))] [])) _
              refine XS.aload X9.here hx rfl (hb hby at_106) rfl rfl ?_
              show Steps p.tables e below (T9.setTop (mkF m 108 #[.val (.long j0), .second, .val (.long j2), .second, .val (.long j4), .second, .val (.long j6), .second, .val (.int i8), .val (.int i9), .val (.long t0), .second, .val (.ref (n0 + a3)), .val (.ref (n0 + a6))] [(.ref (n0 + a6))])) _
              refine XS.iconst X9.here hx rfl (hb hby at_108) ?_
              show Steps p.tables e below (T9.setTop (mkF m 109 #[.val (.long j0), .second, .val (.long j2), .second, .val (.long j4), .second, .val (.long j6), .second, .val (.int i8), .val (.int i9), .val (.long t0), .second, .val (.ref (n0 + a3)), .val (.ref (n0 + a6))] [(.int (0 : Int32)), (.ref (n0 + a6))])) _
              refine ldJ X9 hx hZ e9 O9 hx27 rfl (g := (mkF m 109 #[.val (.long j0), .second, .val (.long j2), .second, .val (.long j4), .second, .val (.long j6), .second, .val (.int i8), .val (.int i9), .val (.long t0), .second, .val (.ref (n0 + a3)), .val (.ref (n0 + a6))] [(.int (0 : Int32)), (.ref (n0 + a6))])) rfl rfl (hb hby at_109) _ ?_
              show Steps p.tables e below (T9.setTop (mkF m 110 #[.val (.long j0), .second, .val (.long j2), .second, .val (.long j4), .second, .val (.long j6), .second, .val (.int i8), .val (.int i9), .val (.long t0), .second, .val (.ref (n0 + a3)), .val (.ref (n0 + a6))] [(.long x27)])) _
              refine XS.lloadN X9.here hx rfl (hb hby at_110) rfl ?_
              show Steps p.tables e below (T9.setTop (mkF m 111 #[.val (.long j0), .second, .val (.long j2), .second, .val (.long j4), .second, .val (.long j6), .second, .val (.int i8), .val (.int i9), .val (.long t0), .second, .val (.ref (n0 + a3)), .val (.ref (n0 + a6))] [(.long j0), (.long x27)])) _
              refine XS.lcmp X9.here hx rfl (hb hby at_111) rfl ?_
              exact k
            by_cases hc28 : x27 = j0
            · rw [if_pos hc28] at hf
              obtain ⟨x29, hx29, hf⟩ := own_bind hf
              refine Gl.on (B := T9.setTop (mkF m 121 #[.val (.long j0), .second, .val (.long j2), .second, .val (.long j4), .second, .val (.long j6), .second, .val (.int i8), .val (.int i9), .val (.long t0), .second, .val (.ref (n0 + a3)), .val (.ref (n0 + a6))] [(.int (lcmpW x29 j2))])) (fun t k => ?_) ?_
              · show Steps p.tables e below (T9.setTop (mkF m 112 #[.val (.long j0), .second, .val (.long j2), .second, .val (.long j4), .second, .val (.long j6), .second, .val (.int i8), .val (.int i9), .val (.long t0), .second, .val (.ref (n0 + a3)), .val (.ref (n0 + a6))] [(.int (lcmpW x27 j0))])) _
                refine XS.ifNo X9.here hx rfl (hb hby at_112) rfl ((if0 _ _).trans (teq ((lw_eq _ _).mpr hc28)).2) ?_
                show Steps p.tables e below (T9.setTop (mkF m 115 #[.val (.long j0), .second, .val (.long j2), .second, .val (.long j4), .second, .val (.long j6), .second, .val (.int i8), .val (.int i9), .val (.long t0), .second, .val (.ref (n0 + a3)), .val (.ref (n0 + a6))] [])) _
                refine XS.aload X9.here hx rfl (hb hby at_115) rfl rfl ?_
                show Steps p.tables e below (T9.setTop (mkF m 117 #[.val (.long j0), .second, .val (.long j2), .second, .val (.long j4), .second, .val (.long j6), .second, .val (.int i8), .val (.int i9), .val (.long t0), .second, .val (.ref (n0 + a3)), .val (.ref (n0 + a6))] [(.ref (n0 + a6))])) _
                refine XS.iconst X9.here hx rfl (hb hby at_117) ?_
                show Steps p.tables e below (T9.setTop (mkF m 118 #[.val (.long j0), .second, .val (.long j2), .second, .val (.long j4), .second, .val (.long j6), .second, .val (.int i8), .val (.int i9), .val (.long t0), .second, .val (.ref (n0 + a3)), .val (.ref (n0 + a6))] [(.int (1 : Int32)), (.ref (n0 + a6))])) _
                refine ldJ X9 hx hZ e9 O9 hx29 rfl (g := (mkF m 118 #[.val (.long j0), .second, .val (.long j2), .second, .val (.long j4), .second, .val (.long j6), .second, .val (.int i8), .val (.int i9), .val (.long t0), .second, .val (.ref (n0 + a3)), .val (.ref (n0 + a6))] [(.int (1 : Int32)), (.ref (n0 + a6))])) rfl rfl (hb hby at_118) _ ?_
                show Steps p.tables e below (T9.setTop (mkF m 119 #[.val (.long j0), .second, .val (.long j2), .second, .val (.long j4), .second, .val (.long j6), .second, .val (.int i8), .val (.int i9), .val (.long t0), .second, .val (.ref (n0 + a3)), .val (.ref (n0 + a6))] [(.long x29)])) _
                refine XS.lloadN X9.here hx rfl (hb hby at_119) rfl ?_
                show Steps p.tables e below (T9.setTop (mkF m 120 #[.val (.long j0), .second, .val (.long j2), .second, .val (.long j4), .second, .val (.long j6), .second, .val (.int i8), .val (.int i9), .val (.long t0), .second, .val (.ref (n0 + a3)), .val (.ref (n0 + a6))] [(.long j2), (.long x29)])) _
                refine XS.lcmp X9.here hx rfl (hb hby at_120) rfl ?_
                exact k
              by_cases hc30 : x29 = j2
              · rw [if_pos hc30] at hf
                refine Gl.on (B := T9.setTop (mkF m 129 #[.val (.long j0), .second, .val (.long j2), .second, .val (.long j4), .second, .val (.long j6), .second, .val (.int i8), .val (.int i9), .val (.long t0), .second, .val (.ref (n0 + a3)), .val (.ref (n0 + a6))] [(.int (1 : Int32))])) (fun t k => ?_) ?_
                · show Steps p.tables e below (T9.setTop (mkF m 121 #[.val (.long j0), .second, .val (.long j2), .second, .val (.long j4), .second, .val (.long j6), .second, .val (.int i8), .val (.int i9), .val (.long t0), .second, .val (.ref (n0 + a3)), .val (.ref (n0 + a6))] [(.int (lcmpW x29 j2))])) _
                  refine XS.ifNo X9.here hx rfl (hb hby at_121) rfl ((if0 _ _).trans (teq ((lw_eq _ _).mpr hc30)).2) ?_
                  show Steps p.tables e below (T9.setTop (mkF m 124 #[.val (.long j0), .second, .val (.long j2), .second, .val (.long j4), .second, .val (.long j6), .second, .val (.int i8), .val (.int i9), .val (.long t0), .second, .val (.ref (n0 + a3)), .val (.ref (n0 + a6))] [])) _
                  refine XS.iconst X9.here hx rfl (hb hby at_124) ?_
                  show Steps p.tables e below (T9.setTop (mkF m 125 #[.val (.long j0), .second, .val (.long j2), .second, .val (.long j4), .second, .val (.long j6), .second, .val (.int i8), .val (.int i9), .val (.long t0), .second, .val (.ref (n0 + a3)), .val (.ref (n0 + a6))] [(.int (1 : Int32))])) _
                  refine XS.goto X9.here hx rfl (pc0 := 125) (pc' := 129) rfl (hb hby at_125) (by decide) (by decide) ?_
                  exact k
                obtain ⟨rfl, rfl⟩ := own_inj hf
                exact Gl.outN X9 hx hlk (t := .boolean) hret (by simp) (hb hby at_129) ⟨rfl, N9, by rw [e9]; exact O9⟩ (by show _ ≤ 16; omega) (by show _ ≤ 128; omega)
              · rw [if_neg hc30] at hf
                refine Gl.on (B := T9.setTop (mkF m 129 #[.val (.long j0), .second, .val (.long j2), .second, .val (.long j4), .second, .val (.long j6), .second, .val (.int i8), .val (.int i9), .val (.long t0), .second, .val (.ref (n0 + a3)), .val (.ref (n0 + a6))] [(.int (0 : Int32))])) (fun t k => ?_) ?_
                · show Steps p.tables e below (T9.setTop (mkF m 121 #[.val (.long j0), .second, .val (.long j2), .second, .val (.long j4), .second, .val (.long j6), .second, .val (.int i8), .val (.int i9), .val (.long t0), .second, .val (.ref (n0 + a3)), .val (.ref (n0 + a6))] [(.int (lcmpW x29 j2))])) _
                  refine XS.ifYes X9.here hx rfl (pc0 := 121) (pc' := 128) rfl (hb hby at_121) rfl ((if0 _ _).trans (feq (mt (lw_eq _ _).mp hc30)).2) (by decide) (by decide) ?_
                  show Steps p.tables e below (T9.setTop (mkF m 128 #[.val (.long j0), .second, .val (.long j2), .second, .val (.long j4), .second, .val (.long j6), .second, .val (.int i8), .val (.int i9), .val (.long t0), .second, .val (.ref (n0 + a3)), .val (.ref (n0 + a6))] [])) _
                  refine XS.iconst X9.here hx rfl (hb hby at_128) ?_
                  exact k
                obtain ⟨rfl, rfl⟩ := own_inj hf
                exact Gl.outN X9 hx hlk (t := .boolean) hret (by simp) (hb hby at_129) ⟨rfl, N9, by rw [e9]; exact O9⟩ (by show _ ≤ 16; omega) (by show _ ≤ 128; omega)
            · rw [if_neg hc28] at hf
              refine Gl.on (B := T9.setTop (mkF m 129 #[.val (.long j0), .second, .val (.long j2), .second, .val (.long j4), .second, .val (.long j6), .second, .val (.int i8), .val (.int i9), .val (.long t0), .second, .val (.ref (n0 + a3)), .val (.ref (n0 + a6))] [(.int (0 : Int32))])) (fun t k => ?_) ?_
              · show Steps p.tables e below (T9.setTop (mkF m 112 #[.val (.long j0), .second, .val (.long j2), .second, .val (.long j4), .second, .val (.long j6), .second, .val (.int i8), .val (.int i9), .val (.long t0), .second, .val (.ref (n0 + a3)), .val (.ref (n0 + a6))] [(.int (lcmpW x27 j0))])) _
                refine XS.ifYes X9.here hx rfl (pc0 := 112) (pc' := 128) rfl (hb hby at_112) rfl ((if0 _ _).trans (feq (mt (lw_eq _ _).mp hc28)).2) (by decide) (by decide) ?_
                show Steps p.tables e below (T9.setTop (mkF m 128 #[.val (.long j0), .second, .val (.long j2), .second, .val (.long j4), .second, .val (.long j6), .second, .val (.int i8), .val (.int i9), .val (.long t0), .second, .val (.ref (n0 + a3)), .val (.ref (n0 + a6))] [])) _
                refine XS.iconst X9.here hx rfl (hb hby at_128) ?_
                exact k
              obtain ⟨rfl, rfl⟩ := own_inj hf
              exact Gl.outN X9 hx hlk (t := .boolean) hret (by simp) (hb hby at_129) ⟨rfl, N9, by rw [e9]; exact O9⟩ (by show _ ≤ 16; omega) (by show _ ≤ 128; omega)
          · rw [if_neg hc26] at hf
            refine Gl.on (B := T9.setTop (mkF m 129 #[.val (.long j0), .second, .val (.long j2), .second, .val (.long j4), .second, .val (.long j6), .second, .val (.int i8), .val (.int i9), .val (.long t0), .second, .val (.ref (n0 + a3)), .val (.ref (n0 + a6))] [(.int (0 : Int32))])) (fun t k => ?_) ?_
            · show Steps p.tables e below (T9.setTop (mkF m 103 #[.val (.long j0), .second, .val (.long j2), .second, .val (.long j4), .second, .val (.long j6), .second, .val (.int i8), .val (.int i9), .val (.long t0), .second, .val (.ref (n0 + a3)), .val (.ref (n0 + a6))] [(.int (lcmpW x25 j6))])) _
              refine XS.ifYes X9.here hx rfl (pc0 := 103) (pc' := 128) rfl (hb hby at_103) rfl ((if0 _ _).trans (feq (mt (lw_eq _ _).mp hc26)).2) (by decide) (by decide) ?_
              show Steps p.tables e below (T9.setTop (mkF m 128 #[.val (.long j0), .second, .val (.long j2), .second, .val (.long j4), .second, .val (.long j6), .second, .val (.int i8), .val (.int i9), .val (.long t0), .second, .val (.ref (n0 + a3)), .val (.ref (n0 + a6))] [])) _
              refine XS.iconst X9.here hx rfl (hb hby at_128) ?_
              exact k
            obtain ⟨rfl, rfl⟩ := own_inj hf
            exact Gl.outN X9 hx hlk (t := .boolean) hret (by simp) (hb hby at_129) ⟨rfl, N9, by rw [e9]; exact O9⟩ (by show _ ≤ 16; omega) (by show _ ≤ 128; omega)
        · rw [if_neg hc24] at hf
          refine Gl.on (B := T9.setTop (mkF m 129 #[.val (.long j0), .second, .val (.long j2), .second, .val (.long j4), .second, .val (.long j6), .second, .val (.int i8), .val (.int i9), .val (.long t0), .second, .val (.ref (n0 + a3)), .val (.ref (n0 + a6))] [(.int (0 : Int32))])) (fun t k => ?_) ?_
          · show Steps p.tables e below (T9.setTop (mkF m 93 #[.val (.long j0), .second, .val (.long j2), .second, .val (.long j4), .second, .val (.long j6), .second, .val (.int i8), .val (.int i9), .val (.long t0), .second, .val (.ref (n0 + a3)), .val (.ref (n0 + a6))] [(.int (lcmpW x23 j4))])) _
            refine XS.ifYes X9.here hx rfl (pc0 := 93) (pc' := 128) rfl (hb hby at_93) rfl ((if0 _ _).trans (feq (mt (lw_eq _ _).mp hc24)).2) (by decide) (by decide) ?_
            show Steps p.tables e below (T9.setTop (mkF m 128 #[.val (.long j0), .second, .val (.long j2), .second, .val (.long j4), .second, .val (.long j6), .second, .val (.int i8), .val (.int i9), .val (.long t0), .second, .val (.ref (n0 + a3)), .val (.ref (n0 + a6))] [])) _
            refine XS.iconst X9.here hx rfl (hb hby at_128) ?_
            exact k
          obtain ⟨rfl, rfl⟩ := own_inj hf
          exact Gl.outN X9 hx hlk (t := .boolean) hret (by simp) (hb hby at_129) ⟨rfl, N9, by rw [e9]; exact O9⟩ (by show _ ≤ 16; omega) (by show _ ≤ 128; omega)
    · rw [if_neg hc13] at hf
      refine Gl.on (B := T9.setTop (mkF m 80 #[.val (.long j0), .second, .val (.long j2), .second, .val (.long j4), .second, .val (.long j6), .second, .val (.int i8), .val (.int i9), .val (.long t0), .second, .val (.ref (n0 + a3)), .val (.ref (n0 + a6))] [(.int (0 : Int32))])) (fun t k => ?_) ?_
      · show Steps p.tables e below (T9.setTop (mkF m 76 #[.val (.long j0), .second, .val (.long j2), .second, .val (.long j4), .second, .val (.long j6), .second, .val (.int i8), .val (.int i9), .val (.long t0), .second, .val (.ref (n0 + a3)), .val (.ref (n0 + a6))] [(.int (2 : Int32)), (.int x12)])) _
        refine XS.icmpNo X9.here hx rfl (hb hby at_76) rfl (feq hc13).1 ?_
        show Steps p.tables e below (T9.setTop (mkF m 79 #[.val (.long j0), .second, .val (.long j2), .second, .val (.long j4), .second, .val (.long j6), .second, .val (.int i8), .val (.int i9), .val (.long t0), .second, .val (.ref (n0 + a3)), .val (.ref (n0 + a6))] [])) _
        refine XS.iconst X9.here hx rfl (hb hby at_79) ?_
        exact k
      obtain ⟨rfl, rfl⟩ := own_inj hf
      exact Gl.outN X9 hx hlk (t := .boolean) hret (by simp) (hb hby at_80) ⟨rfl, N9, by rw [e9]; exact O9⟩ (by show _ ≤ 16; omega) (by show _ ≤ 128; omega)
  · rw [if_neg hc11] at hf
    refine Gl.on (B := T9.setTop (mkF m 80 #[.val (.long j0), .second, .val (.long j2), .second, .val (.long j4), .second, .val (.long j6), .second, .val (.int i8), .val (.int i9), .val (.long t0), .second, .val (.ref (n0 + a3)), .val (.ref (n0 + a6))] [(.int (0 : Int32))])) (fun t k => ?_) ?_
    · show Steps p.tables e below (T9.setTop (mkF m 69 #[.val (.long j0), .second, .val (.long j2), .second, .val (.long j4), .second, .val (.long j6), .second, .val (.int i8), .val (.int i9), .val (.long t0), .second, .val (.ref (n0 + a3)), .val (.ref (n0 + a6))] [(.int (2 : Int32)), (.int x10)])) _
      refine XS.icmpYes X9.here hx rfl (pc0 := 69) (pc' := 79) rfl (hb hby at_69) rfl (feq hc11).2 (by decide) (by decide) ?_
      show Steps p.tables e below (T9.setTop (mkF m 79 #[.val (.long j0), .second, .val (.long j2), .second, .val (.long j4), .second, .val (.long j6), .second, .val (.int i8), .val (.int i9), .val (.long t0), .second, .val (.ref (n0 + a3)), .val (.ref (n0 + a6))] [])) _
      refine XS.iconst X9.here hx rfl (hb hby at_79) ?_
      exact k
    obtain ⟨rfl, rfl⟩ := own_inj hf
    exact Gl.outN X9 hx hlk (t := .boolean) hret (by simp) (hb hby at_80) ⟨rfl, N9, by rw [e9]; exact O9⟩ (by show _ ≤ 16; omega) (by show _ ≤ 128; omega)
def b0_12 (D : Hp) (j0 : Int64) (j2 : Int64) (j4 : Int64) (j6 : Int64) (t0 : Int32) : Option (Int32 × Hp) :=
  if t0 = (0 : Int32) then (b0_26 D j0 j2 j4 j6 t0 (0 : Int64)) else (b0_26 D j0 j2 j4 j6 t0 (-1 : Int64))
set_option maxRecDepth 65536 in
set_option maxHeartbeats 40000000 in
theorem bt0_12 {p : Program} {l : Launch} {e : Env} {s : State} {m : MethodId} {args : Array Value} {below : List Frame} {meth : Method} {c : Code} {Z : State} {a0 : Array Value} {n0 : Nat} {D' : Hp} {r : Int32} {T0 : State} {locs : List Loc} {cells slots : Nat} {h0 : Heap} {D : Hp} {j0 : Int64} {j2 : Int64} {j4 : Int64} {j6 : Int64} {i8 : Int32} {t0 : Int32} (hw : ∀ d ∈ tables_1, d.before a0 Z = true) (hC : Cx p s m meth c Z code maxLocals ret "com/example/whorl/whorl/hpke/PrimeFieldSwapPinLaw" "law") (X0 : Stand p l e room_1 s m args below meth c T0 locs cells slots) (e0 : T0.heap = h0) (O0 : Ow Kt1 Z h0 n0 D) (N0 : Fr n0 locs) (hcc : cells ≤ 0) (hss : slots ≤ 0) (hf : b0_12 D j0 j2 j4 j6 t0 = some (r, D')) : Gl p e below s 16 128 (Qw Kt1 Z n0 (some (.int r)) D') (T0.setTop (mkF m 12 #[.val (.long j0), .second, .val (.long j2), .second, .val (.long j4), .second, .val (.long j6), .second, .val (.int i8), .unset, .unset, .unset, .unset, .unset] [(.int t0)])) := by
  obtain ⟨hx, hZ, hby, hml, hown, hnm, hret, hlk⟩ := id hC
  have hml : c.maxLocals = 14 := hml
  rw [b0_12] at hf
  refine Gl.on (B := T0.setTop (mkF m 16 #[.val (.long j0), .second, .val (.long j2), .second, .val (.long j4), .second, .val (.long j6), .second, .val (.int i8), .val (.int t0), .unset, .unset, .unset, .unset] [(.int t0)])) (fun t k => ?_) ?_
  · show Steps p.tables e below (T0.setTop (mkF m 12 #[.val (.long j0), .second, .val (.long j2), .second, .val (.long j4), .second, .val (.long j6), .second, .val (.int i8), .unset, .unset, .unset, .unset, .unset] [(.int t0)])) _
    refine XS.istore X0.here hx rfl (hb hby at_12) rfl (l' := #[.val (.long j0), .second, .val (.long j2), .second, .val (.long j4), .second, .val (.long j6), .second, .val (.int i8), .val (.int t0), .unset, .unset, .unset, .unset]) rfl ?_
    show Steps p.tables e below (T0.setTop (mkF m 14 #[.val (.long j0), .second, .val (.long j2), .second, .val (.long j4), .second, .val (.long j6), .second, .val (.int i8), .val (.int t0), .unset, .unset, .unset, .unset] [])) _
    refine XS.iload X0.here hx rfl (hb hby at_14) rfl ?_
    exact k
  by_cases hc2 : t0 = (0 : Int32)
  · rw [if_pos hc2] at hf
    refine Gl.on (B := T0.setTop (mkF m 26 #[.val (.long j0), .second, .val (.long j2), .second, .val (.long j4), .second, .val (.long j6), .second, .val (.int i8), .val (.int t0), .unset, .unset, .unset, .unset] [(.long (0 : Int64))])) (fun t k => ?_) ?_
    · show Steps p.tables e below (T0.setTop (mkF m 16 #[.val (.long j0), .second, .val (.long j2), .second, .val (.long j4), .second, .val (.long j6), .second, .val (.int i8), .val (.int t0), .unset, .unset, .unset, .unset] [(.int t0)])) _
      refine XS.ifYes X0.here hx rfl (pc0 := 16) (pc' := 25) rfl (hb hby at_16) rfl ((if0 _ _).trans (teq hc2).1) (by decide) (by decide) ?_
      show Steps p.tables e below (T0.setTop (mkF m 25 #[.val (.long j0), .second, .val (.long j2), .second, .val (.long j4), .second, .val (.long j6), .second, .val (.int i8), .val (.int t0), .unset, .unset, .unset, .unset] [])) _
      refine XS.lconst X0.here hx rfl (hb hby at_25) ?_
      exact k
    exact bt0_26 hw hC X0 e0 O0 N0 (by omega) (by omega) hf
  · rw [if_neg hc2] at hf
    refine Gl.on (B := T0.setTop (mkF m 26 #[.val (.long j0), .second, .val (.long j2), .second, .val (.long j4), .second, .val (.long j6), .second, .val (.int i8), .val (.int t0), .unset, .unset, .unset, .unset] [(.long (-1 : Int64))])) (fun t k => ?_) ?_
    · show Steps p.tables e below (T0.setTop (mkF m 16 #[.val (.long j0), .second, .val (.long j2), .second, .val (.long j4), .second, .val (.long j6), .second, .val (.int i8), .val (.int t0), .unset, .unset, .unset, .unset] [(.int t0)])) _
      refine XS.ifNo X0.here hx rfl (hb hby at_16) rfl ((if0 _ _).trans (feq hc2).1) ?_
      show Steps p.tables e below (T0.setTop (mkF m 19 #[.val (.long j0), .second, .val (.long j2), .second, .val (.long j4), .second, .val (.long j6), .second, .val (.int i8), .val (.int t0), .unset, .unset, .unset, .unset] [])) _
      refine X0.ldc2Long hx hown (mvT hZ (hw _ (List.mem_of_getElem? (i := 0) rfl))) (g := (mkF m 19 #[.val (.long j0), .second, .val (.long j2), .second, .val (.long j4), .second, .val (.long j6), .second, .val (.int i8), .val (.int t0), .unset, .unset, .unset, .unset] [])) rfl (hb hby at_19) _ ?_
      show Steps p.tables e below (T0.setTop (mkF m 22 #[.val (.long j0), .second, .val (.long j2), .second, .val (.long j4), .second, .val (.long j6), .second, .val (.int i8), .val (.int t0), .unset, .unset, .unset, .unset] [(.long (-1 : Int64))])) _
      refine XS.goto X0.here hx rfl (pc0 := 22) (pc' := 26) rfl (hb hby at_22) (by decide) (by decide) ?_
      exact k
    exact bt0_26 hw hC X0 e0 O0 N0 (by omega) (by omega) hf
def f0 (D : Hp) (j0 : Int64) (j2 : Int64) (j4 : Int64) (j6 : Int64) (i8 : Int32) : Option (Int32 × Hp) :=
  if (i8 &&& (1 : Int32)) = (0 : Int32) then (b0_12 D j0 j2 j4 j6 (0 : Int32)) else (b0_12 D j0 j2 j4 j6 (1 : Int32))
theorem ef_0 (m : MethodId) (j0 : Int64) (j2 : Int64) (j4 : Int64) (j6 : Int64) (i8 : Int32) : entryFrame m #[(.long j0), (.long j2), (.long j4), (.long j6), (.int i8)] maxLocals = mkF m 0 #[.val (.long j0), .second, .val (.long j2), .second, .val (.long j4), .second, .val (.long j6), .second, .val (.int i8), .unset, .unset, .unset, .unset, .unset] [] := by first | (simp [entryFrame, mkF, argsToLocals, Value.category, maxLocals]; done) | rfl
set_option maxRecDepth 65536 in
set_option maxHeartbeats 40000000 in
theorem ct0 {l : Launch} {Z : State} {a0 : Array Value} (hw : ∀ d ∈ tables_1, d.before a0 Z = true) {n0 : Nat} {D D' : Hp} {j0 : Int64} {j2 : Int64} {j4 : Int64} {j6 : Int64} {i8 : Int32} {r : Int32} (hf : f0 D j0 j2 j4 j6 i8 = some (r, D')) :
    Ct Kt1 l Z x (.code x code maxLocals ret) room_1 n0 D #[(.long j0), (.long j2), (.long j4), (.long j6), (.int i8)] (some (.int r)) D' := by
  refine Ct.of (plainFor_of_name pn_0) ?_
  intro p e s m below meth c T0 h0 hC X0 e0 O0
  obtain ⟨hx, hZ, hby, hml, hown, hnm, hret, hlk⟩ := id hC
  have hml : c.maxLocals = 14 := hml
  have hown : s.vm.findClass "com/example/whorl/whorl/hpke/PrimeFieldSwapPinLaw" = some m.cls := hown
  have hnm : meth.name = "law" := hnm
  have N0 := Fr.nil n0
  refine Gl.on (fun t k => castTop (ef_0 m j0 j2 j4 j6 i8) k) ?_
  rw [f0] at hf
  refine Gl.on (B := T0.setTop (mkF m 4 #[.val (.long j0), .second, .val (.long j2), .second, .val (.long j4), .second, .val (.long j6), .second, .val (.int i8), .unset, .unset, .unset, .unset, .unset] [(.int (i8 &&& (1 : Int32)))])) (fun t k => ?_) ?_
  · show Steps p.tables e below (T0.setTop (mkF m 0 #[.val (.long j0), .second, .val (.long j2), .second, .val (.long j4), .second, .val (.long j6), .second, .val (.int i8), .unset, .unset, .unset, .unset, .unset] [])) _
    refine XS.iload X0.here hx rfl (hb hby at_0) rfl ?_
    show Steps p.tables e below (T0.setTop (mkF m 2 #[.val (.long j0), .second, .val (.long j2), .second, .val (.long j4), .second, .val (.long j6), .second, .val (.int i8), .unset, .unset, .unset, .unset, .unset] [(.int i8)])) _
    refine XS.iconst X0.here hx rfl (hb hby at_2) ?_
    show Steps p.tables e below (T0.setTop (mkF m 3 #[.val (.long j0), .second, .val (.long j2), .second, .val (.long j4), .second, .val (.long j6), .second, .val (.int i8), .unset, .unset, .unset, .unset, .unset] [(.int (1 : Int32)), (.int i8)])) _
    refine XS.iand X0.here hx rfl (hb hby at_3) rfl ?_
    exact k
  by_cases hc1 : (i8 &&& (1 : Int32)) = (0 : Int32)
  · rw [if_pos hc1] at hf
    refine Gl.on (B := T0.setTop (mkF m 12 #[.val (.long j0), .second, .val (.long j2), .second, .val (.long j4), .second, .val (.long j6), .second, .val (.int i8), .unset, .unset, .unset, .unset, .unset] [(.int (0 : Int32))])) (fun t k => ?_) ?_
    · show Steps p.tables e below (T0.setTop (mkF m 4 #[.val (.long j0), .second, .val (.long j2), .second, .val (.long j4), .second, .val (.long j6), .second, .val (.int i8), .unset, .unset, .unset, .unset, .unset] [(.int (i8 &&& (1 : Int32)))])) _
      refine XS.ifYes X0.here hx rfl (pc0 := 4) (pc' := 11) rfl (hb hby at_4) rfl ((if0 _ _).trans (teq hc1).1) (by decide) (by decide) ?_
      show Steps p.tables e below (T0.setTop (mkF m 11 #[.val (.long j0), .second, .val (.long j2), .second, .val (.long j4), .second, .val (.long j6), .second, .val (.int i8), .unset, .unset, .unset, .unset, .unset] [])) _
      refine XS.iconst X0.here hx rfl (hb hby at_11) ?_
      exact k
    exact bt0_12 hw hC X0 e0 O0 N0 (by omega) (by omega) hf
  · rw [if_neg hc1] at hf
    refine Gl.on (B := T0.setTop (mkF m 12 #[.val (.long j0), .second, .val (.long j2), .second, .val (.long j4), .second, .val (.long j6), .second, .val (.int i8), .unset, .unset, .unset, .unset, .unset] [(.int (1 : Int32))])) (fun t k => ?_) ?_
    · show Steps p.tables e below (T0.setTop (mkF m 4 #[.val (.long j0), .second, .val (.long j2), .second, .val (.long j4), .second, .val (.long j6), .second, .val (.int i8), .unset, .unset, .unset, .unset, .unset] [(.int (i8 &&& (1 : Int32)))])) _
      refine XS.ifNo X0.here hx rfl (hb hby at_4) rfl ((if0 _ _).trans (feq hc1).1) ?_
      show Steps p.tables e below (T0.setTop (mkF m 7 #[.val (.long j0), .second, .val (.long j2), .second, .val (.long j4), .second, .val (.long j6), .second, .val (.int i8), .unset, .unset, .unset, .unset, .unset] [])) _
      refine XS.iconst X0.here hx rfl (hb hby at_7) ?_
      show Steps p.tables e below (T0.setTop (mkF m 8 #[.val (.long j0), .second, .val (.long j2), .second, .val (.long j4), .second, .val (.long j6), .second, .val (.int i8), .unset, .unset, .unset, .unset, .unset] [(.int (1 : Int32))])) _
      refine XS.goto X0.here hx rfl (pc0 := 8) (pc' := 12) rfl (hb hby at_8) (by decide) (by decide) ?_
      exact k
    exact bt0_12 hw hC X0 e0 O0 N0 (by omega) (by omega) hf
theorem own_x1 (a b : Int64) : a ^^^ (a ^^^ b) = b := by
  rw [← Int64.xor_assoc, Int64.xor_self, Int64.zero_xor]
theorem own_x2 (a b : Int64) : b ^^^ (a ^^^ b) = a := by
  rw [Int64.xor_comm a b, own_x1]
theorem own_t2 : Nat.toInt32 2 = (2 : Int32) := rfl
theorem law_ok (i0 i1 i2 i3 : Int64) (i4 : Int32) : ∃ D', f0 [] i0 i1 i2 i3 i4 = some ((1 : Int32), D') := by
  by_cases q : (i4 &&& (1 : Int32)) = (0 : Int32)
  · refine ⟨[(0, [.long i0, .long i1]), (0, [.long i2, .long i3])], ?_⟩
    simp [b1_3, f1, b0_26, b0_12, f0, own_let, nA, wV, rJ, rV, asJ, lA, q, own_t2]
  · refine ⟨[(0, [.long i2, .long i3]), (0, [.long i0, .long i1])], ?_⟩
    simp [b1_3, f1, b0_26, b0_12, f0, own_let, nA, wV, rJ, rV, asJ, lA, q, own_t2, own_x1, own_x2]
set_option maxRecDepth 65536 in
set_option maxHeartbeats 40000000 in
theorem comes_1 {Post : Tables → Env → Array Value → State → Outcome → State → Prop} (hpost : ∀ tb e args s v u, (limb_1_1.after args s (.returned v) u = true ∧ limb_1_2.after args s (.returned v) u = true ∧ True) → FrameEnd s (.returned v) u (Jvm.fieldLocs frame_1_writes args s ++ Jvm.arrayLocs frame_1_arrays args s ++ Jvm.staticLocs frame_1_statics s) 16 128 → Post tb e args s (.returned v) u) :
    ArmFor flags0 classFile x code maxLocals ret World_1 tables_1 room_1 Calls_1 rest_1 Pre_1 Post := by
  intro l hfl _ _ p e ha hc hk s m args below hf hA hF happ hP
  obtain ⟨hcalls, hrest, hpre⟩ := hP
  obtain ⟨-, -, -, hnamed, -, -, -, hat⟩ := (Spec.applies_iff hf).mp happ
  obtain ⟨hg, hn⟩ := and_e (Cond.before_iff.mp (show (Jvm.Cond.and given_1 narrow_1).before args s = true from hpre))
  obtain ⟨g0, hg⟩ := and_e hg
  obtain ⟨gg0, hg⟩ := and_e hg
  obtain ⟨gg1, hg⟩ := and_e hg
  obtain ⟨gg2, hg⟩ := and_e hg
  obtain ⟨gg3, hg⟩ := and_e hg
  have gg4 := hg
  obtain ⟨w0, w1, w2, w3, w4, rfl⟩ : ∃ w0 w1 w2 w3 w4 : Value, args = #[w0, w1, w2, w3, w4] := by
    have hs : args.size = 5 := by simpa [Cond.value, given_1] using g0
    obtain ⟨L⟩ := args
    match L, hs with
    | [w0, w1, w2, w3, w4], _ => exact ⟨w0, w1, w2, w3, w4, rfl⟩
  have hw := fun d (hd : d ∈ tables_1) => atoms_spec (ws := Jvm.Cond.code x code maxLocals ret :: tables_1) hat d (List.mem_cons_of_mem _ hd)
  obtain ⟨i0, ei0⟩ := isL_v gg0
  obtain rfl : w0 = (.long i0) := Option.some.inj ei0
  obtain ⟨i1, ei1⟩ := isL_v gg1
  obtain rfl : w1 = (.long i1) := Option.some.inj ei1
  obtain ⟨i2, ei2⟩ := isL_v gg2
  obtain rfl : w2 = (.long i2) := Option.some.inj ei2
  obtain ⟨i3, ei3⟩ := isL_v gg3
  obtain rfl : w3 = (.long i3) := Option.some.inj ei3
  obtain ⟨i4, ei4⟩ := is_v gg4
  obtain rfl : w4 = (.int i4) := Option.some.inj ei4
  obtain ⟨D', hlaw⟩ := law_ok i0 i1 i2 i3 i4
  obtain ⟨n, o, h1, h2, h3, _, L, rfl, ⟨rfl, N, -⟩, hq⟩ := ct0 (l := l) hw hlaw s.heap tables_1 (own_ow0 s.heap) p e ha hc hk s m _ below hf ((Spec.applies_iff_loose hf).mp happ).1 ⟨rfl, State.Warmed39.refl s, rfl⟩ trivial
  exact ⟨n, _, h1, h2, h3, hpost _ _ _ _ _ _ ⟨Cond.after_iff.mpr rfl, Cond.after_iff.mpr (eq_i res_at (Term.int_eval (1)) rfl), trivial⟩ ⟨hq.1, hq.2.1, (hq.2.2.sift fun y hy => Or.inr (N y hy)).mono (by decide) (by decide)⟩⟩
theorem main_1_1 : Claimed_1_1 := comes_1 fun _ _ _ _ _ _ h hF => ⟨h.1, hF⟩
theorem main_1_2 : Claimed_1_2 := comes_1 fun _ _ _ _ _ _ h hF => ⟨h.2.1, hF⟩
end Jvm.Pilot.@@N@@
namespace Jvm.Pilot.@@N@@
open Jvm Jvm.ClassFile Sem Op Lib Jvm.Free Jvm.Stand Jvm.Pilot.@@N@@.Jvm.D
/-! MADE BY PROGRAM (witnessworld.py) out of the Statement's table words and the real class files: 11 classes; the members and pool entries that the words name. The judged class is class 1, her method 1. -/
namespace start1
open Jvm.ClassFile
def u (s : String) : CpInfo := .utf8 (stringToUtf16 s)
/-- a pool by its gaps: so many unusable entries, then the entry; so many at the end -/
def gap : Nat → List CpInfo → List CpInfo
  | 0, r => r
  | n + 1, r => .unusable :: gap n r
def poolList (es : List (Nat × CpInfo)) (last : Nat) : List CpInfo := es.foldr (fun e r => gap e.1 (e.2 :: r)) (gap last [])
def pool (es : List (Nat × CpInfo)) (last : Nat) : Array CpInfo := ⟨poolList es last⟩
def fileOf (pool : Array CpInfo) (this : Nat) (attrs : Array Attribute := #[]) (ms : Array MethodInfo := #[]) (fl : Nat := 33) (sup : Nat := 0) (ifs : Array Nat := #[]) (fds : Array FieldInfo := #[]) : ClassFile where
  minorVersion := 0
  majorVersion := 65
  constantPool := pool
  accessFlags := fl
  thisClass := this
  superClass := sup
  interfaces := ifs
  fields := fds
  methods := ms
  attributes := attrs
def plain (name : String) (sup : Option ClassId) : Class where
  name := name
  kind := .ordinary
  loader := none
  accessFlags := 33
  super := sup
  interfaces := #[]
  cf := none
  fields := #[]
  methods := #[]
  instanceTypes := #[]
  staticTypes := #[]
  resolved := #[]
  callSites := []
  init := .initialized
  statics := none
  mirror := none

def pool0 : Array CpInfo := pool [(5, u "<init>"), (0, u "()V"), (1, .class_ 10), (1, u "java/lang/Object")] 113

def k0m0 : Method := { name := "<init>", desc := "()V", sig := { parameters := [], returnType := none }, accessFlags := 1, code := none }
/-- java/lang/Object -/
def k0 : Class := { plain "java/lang/Object" none with
  accessFlags := 33
  interfaces := #[]
  cf := some (fileOf pool0 8 #[] #[{ accessFlags := 1, nameIndex := 5, descriptorIndex := 6, attributes := #[] }] 33 0 #[] #[])
  fields := #[]
  methods := #[k0m0]
  instanceTypes := #[]
  staticTypes := #[]
  resolved := Array.replicate 124 none
  statics := none }

def pool1 : Array CpInfo := pool [(2, .class_ 4), (1, u "java/lang/Object"), (0, u "<init>"), (0, u "()V"), (0, .long 18446744073709551615), (1, .methodref 10 11), (0, .class_ 12), (0, .nameAndType 13 14), (0, u "com/example/whorl/whorl/hpke/PrimeField"), (0, u "swap"), (0, u "([J[JJ)V"), (0, .class_ 16), (0, u "com/example/whorl/whorl/hpke/PrimeFieldSwapPinLaw"), (2, u "law"), (0, u "(JJJJI)Z")] 5

def k1m0 : Method := { name := "<init>", desc := "()V", sig := { parameters := [], returnType := none }, accessFlags := 2, code := none }
def k1c1 : Code := { maxStack := 5, maxLocals := 14, code := code, exceptionTable := #[], attributes := #[] }
def k1m1 : Method := { name := "law", desc := "(JJJJI)Z", sig := { parameters := [.long, .long, .long, .long, .int], returnType := some .boolean }, accessFlags := 9, code := some k1c1 }
/-- com/example/whorl/whorl/hpke/PrimeFieldSwapPinLaw -/
def k1 : Class := { plain "com/example/whorl/whorl/hpke/PrimeFieldSwapPinLaw" (some 0) with
  accessFlags := 49
  interfaces := #[]
  cf := some (fileOf pool1 15 #[] #[{ accessFlags := 2, nameIndex := 5, descriptorIndex := 6, attributes := #[] }, { accessFlags := 9, nameIndex := 19, descriptorIndex := 20, attributes := #[] }] 49 2 #[] #[])
  fields := #[]
  methods := #[k1m0, k1m1]
  instanceTypes := #[]
  staticTypes := #[]
  resolved := Array.replicate 26 none
  statics := none }

def pool2 : Array CpInfo := pool [(2, .class_ 4), (1, u "java/lang/Object"), (3, .class_ 10), (1, u "com/example/whorl/whorl/hpke/PrimeField"), (0, u "modulus"), (0, u "Ljava/math/BigInteger;"), (2, u "limbs"), (0, u "I"), (8, u "length"), (2, u "littleEndian"), (0, u "Z"), (9, u "inverseExponent"), (0, u "[Z"), (6, u "leadingOnes"), (82, u "([J[JJ)V"), (0, u "swap")] 5

def k2c0 : Code := { maxStack := 6, maxLocals := 7, code := prog_53_method_19_code, exceptionTable := #[], attributes := #[] }
def k2m0 : Method := { name := "swap", desc := "([J[JJ)V", sig := { parameters := [(.array .long), (.array .long), .long], returnType := none }, accessFlags := 8, code := some k2c0 }
/-- com/example/whorl/whorl/hpke/PrimeField -/
def k2 : Class := { plain "com/example/whorl/whorl/hpke/PrimeField" (some 0) with
  accessFlags := 1056
  interfaces := #[]
  cf := some (fileOf pool2 8 #[] #[{ accessFlags := 8, nameIndex := 131, descriptorIndex := 130, attributes := #[] }] 1056 2 #[] #[{ accessFlags := 18, nameIndex := 11, descriptorIndex := 12, attributes := #[] }, { accessFlags := 18, nameIndex := 15, descriptorIndex := 16, attributes := #[] }, { accessFlags := 18, nameIndex := 25, descriptorIndex := 16, attributes := #[] }, { accessFlags := 18, nameIndex := 28, descriptorIndex := 29, attributes := #[] }, { accessFlags := 18, nameIndex := 39, descriptorIndex := 40, attributes := #[] }, { accessFlags := 18, nameIndex := 47, descriptorIndex := 16, attributes := #[] }])
  fields := #[{ name := "modulus", type := (.object "java/math/BigInteger"), accessFlags := 18, slot := 0, constantValue := 0 }, { name := "limbs", type := .int, accessFlags := 18, slot := 1, constantValue := 0 }, { name := "length", type := .int, accessFlags := 18, slot := 2, constantValue := 0 }, { name := "littleEndian", type := .boolean, accessFlags := 18, slot := 3, constantValue := 0 }, { name := "inverseExponent", type := (.array .boolean), accessFlags := 18, slot := 4, constantValue := 0 }, { name := "leadingOnes", type := .int, accessFlags := 18, slot := 5, constantValue := 0 }]
  methods := #[k2m0]
  instanceTypes := #[(.object "java/math/BigInteger"), .int, .int, .boolean, (.array .boolean), .int]
  staticTypes := #[]
  resolved := Array.replicate 137 none
  statics := none }

def pool3 : Array CpInfo := pool [(1, u "java/lang/Cloneable"), (0, .class_ 1), (0, u "java/lang/Object"), (0, .class_ 3)] 3

/-- java/lang/Cloneable -/
def k3 : Class := { plain "java/lang/Cloneable" (some 0) with
  accessFlags := 1537
  interfaces := #[]
  cf := some (fileOf pool3 2 #[] #[] 1537 4 #[] #[])
  fields := #[]
  methods := #[]
  instanceTypes := #[]
  staticTypes := #[]
  resolved := Array.replicate 8 none
  statics := none }

def pool4 : Array CpInfo := pool [(1, u "java/io/Serializable"), (0, .class_ 1), (0, u "java/lang/Object"), (0, .class_ 3)] 3

/-- java/io/Serializable -/
def k4 : Class := { plain "java/io/Serializable" (some 0) with
  accessFlags := 1537
  interfaces := #[]
  cf := some (fileOf pool4 2 #[] #[] 1537 4 #[] #[])
  fields := #[]
  methods := #[]
  instanceTypes := #[]
  staticTypes := #[]
  resolved := Array.replicate 8 none
  statics := none }

/-- the primitive byte -/
def k5 : Class := { plain "byte" none with kind := .primitive 'B', accessFlags := 0x411 }
/-- [B -/
def k6 : Class := { plain "[B" (some 0) with kind := .array 5 .byte, interfaces := #[3, 4], accessFlags := 1041 }

/-- the primitive int -/
def k7 : Class := { plain "int" none with kind := .primitive 'I', accessFlags := 0x411 }
/-- [I -/
def k8 : Class := { plain "[I" (some 0) with kind := .array 7 .int, interfaces := #[3, 4], accessFlags := 1041 }

/-- the primitive long -/
def k9 : Class := { plain "long" none with kind := .primitive 'J', accessFlags := 0x411 }
/-- [J -/
def k10 : Class := { plain "[J" (some 0) with kind := .array 9 .long, interfaces := #[3, 4], accessFlags := 1041 }

def heap : Heap := #[]
def classes : Array Class := #[k0, k1, k2, k3, k4, k5, k6, k7, k8, k9, k10]
def interned : List (Array UInt16 × Addr) := []
def slotsUsed : Nat := 0
def theMethod : MethodId := ⟨1, 1⟩
def args0 : Array Value := #[.long 1, .long 2, .long 3, .long 4, .int 5]
def aboutOver (below : List Frame) : State where
  vm := { classes := classes, interned := interned.toArray }
  heap := heap
  slotsUsed := slotsUsed
  threads := #[{ frames := .invoking theMethod args0 :: below }]
def below0 : List Frame := [.native { method := ⟨0, 0⟩, args := #[] }]
def about1 : State := aboutOver below0
def p0 : Program := .bare "" "" ""
def e0 : Env := launch0.env 0 0 0
theorem w_frames : about1.frames = Frame.invoking theMethod args0 :: below0 := rfl
set_option maxRecDepth 65536 in
theorem w_args : argsFit about1.vm theMethod args0 = true := by decide +kernel
set_option maxRecDepth 65536 in
theorem w_heap : heapFits about1 = true := by decide +kernel
set_option maxRecDepth 65536 in
theorem w_runnable : about1.curStatus? = some .runnable := by decide +kernel
set_option maxRecDepth 65536 in
theorem w_alone : about1.alone = true := by decide +kernel
set_option maxRecDepth 65536 in
theorem w_named : about1.methodNamed? x = some theMethod := by decide +kernel
set_option maxRecDepth 65536 in
theorem w_hears : about1.hears theMethod below0 = true := by decide +kernel
set_option maxRecDepth 65536 in
theorem w_ripe : about1.ripe theMethod args0 below0 = true := by decide +kernel
theorem w_running : about1.status = .running := rfl
set_option maxRecDepth 65536 in
theorem w_room : about1.hasRoom e0.platform room_1 = true :=
  launch0.hasRoom_least _ room_1 (by decide +kernel) (by decide +kernel) (by decide +kernel) (by decide +kernel) (by decide +kernel) (by decide +kernel)
theorem allAtoms_all (ts : List Jvm.Cond) (a : Array Jvm.Value) (st : Jvm.State) : (allAtoms ts).before a st = ts.all (fun c => c.before a st) := by
  induction ts with
  | nil => rfl
  | cons c t ih =>
    show (Jvm.Cond.and c (allAtoms t)).before a st = _
    rw [Jvm.Cond.before_and, ih, List.all_cons]
def words1 : List Jvm.Cond := Jvm.Cond.code x code maxLocals ret :: tables_1
/-- a 'code' word, met by the world's own term for the bytes: nothing is compared byte by byte -/
theorem code_word {y : MethodName} {bytes : ByteArray} {mx : Nat} {rt : Option FieldType} {a : Array Value} {s : State} {m : MethodId} {meth : Method} {c : Code} (h1 : s.methodNamed? y = some m) (h2 : s.vm.method? m = some meth) (h3 : meth.code = some c) (h4 : c.code = bytes)
    (h5 : (c.maxLocals == mx && c.exceptionTable.isEmpty && decide (c.maxStack ≤ mostOperands) && decide (meth.sig.returnType = rt) && !meth.locks && decide (parseMethodDescriptor y.desc = some meth.sig)) = true) : (Jvm.Cond.code y bytes mx rt).before a s = true := by
  simp only [Bool.and_eq_true, beq_iff_eq, Bool.not_eq_true', decide_eq_true_eq] at h5
  obtain ⟨⟨⟨⟨⟨g1, g2⟩, g3⟩, g4⟩, g5⟩, g6⟩ := h5
  simp [Cond.before, Cond.holds, Cond.value, h1, h2, h3, h4, g1, g2, g3, g4, g5, g6]
def isCode : Jvm.Cond → Bool
  | .code _ _ _ _ => true
  | _ => false
theorem all_split {L : List Jvm.Cond} {P : Jvm.Cond → Bool} (h1 : L.all (fun c => isCode c || P c) = true) (h2 : ∀ c ∈ L.filter isCode, P c = true) : L.all P = true := by
  refine List.all_eq_true.mpr fun c hc => ?_
  have h := List.all_eq_true.mp h1 c hc
  rcases Bool.eq_false_or_eq_true (isCode c) with hi | hi
  · exact h2 c (List.mem_filter.mpr ⟨hc, hi⟩)
  · simpa [hi] using h
set_option maxRecDepth 65536 in
theorem w_c0 : (Jvm.Cond.code x code maxLocals ret).before args0 about1 = true := code_word (m := ⟨1, 1⟩) (meth := k1m1) (c := k1c1) (by decide +kernel) rfl rfl rfl (by decide +kernel)
set_option maxRecDepth 65536 in
theorem w_c1 : (Jvm.Cond.code ({ cls := "com/example/whorl/whorl/hpke/PrimeField", name := "swap", desc := "([J[JJ)V" } : Jvm.MethodName) prog_53_method_19_code (7 : Nat) (Option.none : Option Jvm.ClassFile.FieldType)).before args0 about1 = true := code_word (m := ⟨2, 0⟩) (meth := k2m0) (c := k2c0) (by decide +kernel) rfl rfl rfl (by decide +kernel)
def codes1 : List Jvm.Cond := [Jvm.Cond.code x code maxLocals ret, Jvm.Cond.code ({ cls := "com/example/whorl/whorl/hpke/PrimeField", name := "swap", desc := "([J[JJ)V" } : Jvm.MethodName) prog_53_method_19_code (7 : Nat) (Option.none : Option Jvm.ClassFile.FieldType)]
set_option maxRecDepth 65536 in
theorem codes_eq : words1.filter isCode = codes1 := rfl
theorem w_codes : ∀ c ∈ words1.filter isCode, c.before args0 about1 = true := by
  rw [codes_eq]
  intro c hc
  simp only [codes1, List.mem_cons, List.not_mem_nil, or_false] at hc
  rcases hc with rfl | rfl
  · exact w_c0
  · exact w_c1
set_option maxRecDepth 65536 in
theorem w_t1 : words1.all (fun c => isCode c || c.before args0 about1) = true := by decide +kernel
theorem w_tables : (allAtoms (Jvm.Cond.code x code maxLocals ret :: tables_1)).before args0 about1 = true := by
  rw [allAtoms_all]
  show words1.all (fun c => c.before args0 about1) = true
  refine all_split ?_ w_codes
  rw [w_t1]
set_option maxRecDepth 65536 in
theorem w_case : (Jvm.Cond.and given_1 narrow_1).before args0 about1 = true := by decide +kernel
theorem w_applies : (headSpec (Jvm.Cond.code x code maxLocals ret :: tables_1) room_1).applies x e0.platform about1 = true :=
  (Spec.applies_iff w_frames).mpr ⟨w_running, w_runnable, w_alone, w_named, w_hears, w_ripe, w_room, w_tables⟩
theorem atStart : AtStart classFile x code maxLocals ret World_1 tables_1 room_1 Calls_1 rest_1 Pre_1 launch0 p0 e0 about1 theMethod args0 below0 :=
  ⟨lists_1, trivial, launch0.admits_env _ _ _, launch0.least_env, fairChoices_fair.cas, fairChoices_fair.clock, w_frames, w_args, w_heap, w_applies, trivial, trivial, w_case⟩
end start1
theorem witness_1 : WitnessClaimed_1 := ⟨start1.p0, start1.e0, start1.about1, start1.theMethod, start1.args0, start1.below0, start1.atStart⟩
end Jvm.Pilot.@@N@@
