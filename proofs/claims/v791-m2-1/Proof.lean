import JvmDerived
import JvmDerived.Pilot.@@N@@Statement
import JvmDerived.Pilot.@@N@@Code
set_option linter.unusedVariables false
set_option linter.unusedSimpArgs false

namespace Jvm.Pilot.@@N@@
open Jvm Jvm.ClassFile Sem Op Lib Jvm.Free Jvm.Stand Jvm.LawKit Jvm.RoadKit Bundle Jvm.Pilot.@@N@@.Jvm.D
/-! 1. the goal of a walk, and its steps -/
section OwnGoal
variable {p : Program} {l : Launch} {e : Env} {R : Room} {s : State} {m : MethodId} {args : Array Value} {below : List Frame} {meth : Method} {c : Code} {T : State} {locs : List Loc} {cells slots : Nat}
/-- from the state S the body returns, P holds of what it leaves, and the frame is kept -/
def Gl (p : Program) (e : Env) (below : List Frame) (s : State) (kc ks : Nat) (P : Option Value → Heap → List Loc → Prop) (S : State) : Prop :=
  ∃ t o, Steps p.tables e below S t ∧ t.status = .running ∧ Ended t below o ∧ ∃ v L, o = .returned v ∧ P v t.heap L ∧ FrameEnd s o t L kc ks
variable {kc ks : Nat} {P : Option Value → Heap → List Loc → Prop}
theorem Gl.on {A B : State} (h : ∀ t, Steps p.tables e below B t → Steps p.tables e below A t) (k : Gl p e below s kc ks P B) : Gl p e below s kc ks P A := by
  obtain ⟨t, o, h1, h2⟩ := k
  exact ⟨t, o, h t h1, h2⟩
theorem own_to {tb : Tables} {A B t : State} (q : A = B) (k : Steps tb e below B t) : Steps tb e below A t := q ▸ k
theorem Gl.out (X : Stand p l e R s m args below meth c T locs cells slots) (hx : p.tables.exec = Jvm.exec) (hlk : meth.locks = false) {pc : Nat} {Ls : Array Slot} {w : Value} {t : FieldType} {i : Instr} {rest : List Value} (hret : meth.sig.returnType = some t) (hn : narrow t w = w)
    (hi : (i = .ireturn ∧ (t = .int ∨ t = .boolean ∨ t = .byte ∨ t = .char ∨ t = .short) ∧ ∃ z, w = .int z) ∨ (i = .lreturn ∧ t = .long ∧ ∃ z, w = .long z) ∨ (i = .dreturn ∧ t = .double ∧ ∃ z, w = .double z) ∨ (i = .freturn ∧ t = .float ∧ ∃ z, w = .float z) ∨ (i = .areturn ∧ t.isReference = true ∧ w.isRef = true))
    (hd : decode c.code pc = .ok (i, 1)) (hP : P (some w) T.heap locs) (hc : cells ≤ kc) (hs : slots ≤ ks) : Gl p e below s kc ks P (T.setTop (mkF m pc Ls (w :: rest))) := by
  obtain ⟨fs, hr, hrun, hended, hW, hsame⟩ := X.leave (v := some w) (fun h => by rw [hret] at h; cases h) hlk
  exact ⟨_, _, retOut X hx hret hn hi hd hr, hrun, hended, _, _, rfl, hP, ⟨_, rfl⟩, hW, hsame.mono hc hs⟩
theorem Gl.outI (X : Stand p l e R s m args below meth c T locs cells slots) (hx : p.tables.exec = Jvm.exec) (hlk : meth.locks = false) {pc : Nat} {Ls : Array Slot} {z : Int32} {rest : List Value} (hret : meth.sig.returnType = some .int)
    (hd : decode c.code pc = .ok (.ireturn, 1)) (hP : P (some (.int z)) T.heap locs) (hc : cells ≤ kc) (hs : slots ≤ ks) : Gl p e below s kc ks P (T.setTop (mkF m pc Ls (.int z :: rest))) :=
  Gl.out X hx hlk hret rfl (Or.inl ⟨rfl, Or.inl rfl, z, rfl⟩) hd hP hc hs
theorem Gl.outJ (X : Stand p l e R s m args below meth c T locs cells slots) (hx : p.tables.exec = Jvm.exec) (hlk : meth.locks = false) {pc : Nat} {Ls : Array Slot} {z : Int64} {rest : List Value} (hret : meth.sig.returnType = some .long)
    (hd : decode c.code pc = .ok (.lreturn, 1)) (hP : P (some (.long z)) T.heap locs) (hc : cells ≤ kc) (hs : slots ≤ ks) : Gl p e below s kc ks P (T.setTop (mkF m pc Ls (.long z :: rest))) :=
  Gl.out X hx hlk hret rfl (Or.inr (Or.inl ⟨rfl, rfl, z, rfl⟩)) hd hP hc hs
theorem Gl.outR (X : Stand p l e R s m args below meth c T locs cells slots) (hx : p.tables.exec = Jvm.exec) (hlk : meth.locks = false) {pc : Nat} {Ls : Array Slot} {a : Addr} {t : FieldType} {rest : List Value} (hret : meth.sig.returnType = some t) (ht : t.isReference = true)
    (hd : decode c.code pc = .ok (.areturn, 1)) (hP : P (some (.ref a)) T.heap locs) (hc : cells ≤ kc) (hs : slots ≤ ks) : Gl p e below s kc ks P (T.setTop (mkF m pc Ls (.ref a :: rest))) :=
  Gl.out X hx hlk hret (by cases t <;> first | rfl | cases ht) (Or.inr (Or.inr (Or.inr (Or.inr ⟨rfl, ht, rfl⟩)))) hd hP hc hs
theorem Gl.outN (X : Stand p l e R s m args below meth c T locs cells slots) (hx : p.tables.exec = Jvm.exec) (hlk : meth.locks = false) {pc : Nat} {Ls : Array Slot} {z : Int32} {t : FieldType} {rest : List Value} (hret : meth.sig.returnType = some t) (ht : t = .boolean ∨ t = .byte ∨ t = .char ∨ t = .short)
    (hd : decode c.code pc = .ok (.ireturn, 1)) (hP : P (some (.int (nar t z))) T.heap locs) (hc : cells ≤ kc) (hs : slots ≤ ks) : Gl p e below s kc ks P (T.setTop (mkF m pc Ls (.int z :: rest))) := by
  obtain ⟨fs, hr, hrun, hended, hW, hsame⟩ := X.leave (v := some (.int (nar t z))) (fun h => by rw [hret] at h; cases h) hlk
  exact ⟨_, _, retN X hx hret ht hd hr, hrun, hended, _, _, rfl, hP, ⟨_, rfl⟩, hW, hsame.mono hc hs⟩
theorem Gl.outV (X : Stand p l e R s m args below meth c T locs cells slots) (hx : p.tables.exec = Jvm.exec) (hlk : meth.locks = false) {pc : Nat} {Ls : Array Slot} (hret : meth.sig.returnType = none)
    (hd : decode c.code pc = .ok (.return_, 1)) (hP : P none T.heap locs) (hc : cells ≤ kc) (hs : slots ≤ ks) : Gl p e below s kc ks P (T.setTop (mkF m pc Ls [])) := by
  obtain ⟨fs, hr, hrun, hended, hW, hsame⟩ := X.leave (v := none) (fun _ => rfl) hlk
  exact ⟨_, _, X.returnOut hx hret hd hr, hrun, hended, _, _, rfl, hP, ⟨_, rfl⟩, hW, hsame.mono hc hs⟩
end OwnGoal
/-- two slots: both empty, or a long -/
def Two (a b : Slot) : Prop := (a = .unset ∧ b = .unset) ∨ ∃ z : Int64, a = .val (.long z) ∧ b = .second
theorem own_inj {α β : Type} {a b : α} {c d : β} (h : some (a, c) = some (b, d)) : a = b ∧ c = d := by cases h; exact ⟨rfl, rfl⟩
theorem own_inj1 {α : Type} {a b : α} (h : some a = some b) : a = b := by cases h; rfl
def own_let {α β : Type} (a : α) (f : α → β) : β := f a
theorem own_letE {α β : Type} {a : α} {f : α → β} {b : β} (h : own_let a f = b) : ∃ x, a = x ∧ f x = b := ⟨a, rfl, h⟩
theorem own_bind {α β : Type} {o : Option α} {f : α → Option β} {b : β} (h : o.bind f = some b) : ∃ x, o = some x ∧ f x = some b := by
  cases o with
  | none => cases h
  | some x => exact ⟨x, rfl, h⟩
/-! 2. what the law has made: a list of objects, each with its kind and its values; a reference is a place in that list -/
abbrev Hp := List (Nat × List Value)
abbrev Kt := Nat → FieldType × List (String × String)
def sh (n0 : Nat) : Value → Value
  | .ref k => .ref (n0 + k)
  | v => v
def gV (D : Hp) (a t i : Nat) : Option Value := (D[a]?).bind fun ob => if ob.1 = t then ob.2[i]? else none
def asI : Value → Option Int32
  | .int x => some x
  | _ => none
def asJ : Value → Option Int64
  | .long x => some x
  | _ => none
def asR : Value → Option Nat
  | .ref x => some x
  | _ => none
def gI (D : Hp) (a t i : Nat) : Option Int32 := (gV D a t i).bind asI
def gJ (D : Hp) (a t i : Nat) : Option Int64 := (gV D a t i).bind asJ
def gR (D : Hp) (a t i : Nat) : Option Nat := (gV D a t i).bind asR
def ck (D : Hp) (a t : Nat) : Option Nat := (D[a]?).bind fun ob => if ob.1 = t then some t else none
def pV (D : Hp) (a t i : Nat) (v : Value) : Option Hp := (D[a]?).bind fun ob => if ob.1 = t then (if i < ob.2.length then some (D.set a (t, ob.2.set i v)) else none) else none
def rV (D : Hp) (a t : Nat) (j : Int32) : Option Value := (D[a]?).bind fun ob => if ob.1 = t then (if j < 0 then none else ob.2[j.toNatClampNeg]?) else none
def rI (D : Hp) (a t : Nat) (j : Int32) : Option Int32 := (rV D a t j).bind asI
def rJ (D : Hp) (a t : Nat) (j : Int32) : Option Int64 := (rV D a t j).bind asJ
def wV (D : Hp) (a t : Nat) (j : Int32) (v : Value) : Option Hp := (D[a]?).bind fun ob => if ob.1 = t then (if j < 0 then none else if j.toNatClampNeg < ob.2.length then some (D.set a (t, ob.2.set j.toNatClampNeg v)) else none) else none
def lA (D : Hp) (a t : Nat) : Option Int32 := (D[a]?).bind fun ob => if ob.1 = t then some ob.2.length.toInt32 else none
def nA (D : Hp) (t : Nat) (n : Int32) (cap : Nat) (z : Value) : Option Hp := if n < 0 then none else if n.toNatClampNeg ≤ cap then some (D ++ [(t, List.replicate n.toNatClampNeg z)]) else none
def cA' (D : Hp) (a t cap : Nat) : Option Hp := (D[a]?).bind fun ob => if ob.1 = t then (if ob.2.length ≤ cap then some (D ++ [(t, ob.2)]) else none) else none
def Ob1 (K : Kt) (Z : State) (h : Heap) (n0 a t : Nat) (vs : List Value) : Prop :=
  (∀ ty, (K t).1 = .array ty → Exa Z h a ("[" ++ ty.toString) ∧ ∃ c : Cell, Arr Z h a c ty ∧ c.slots = (vs.map (sh n0)).toArray ∧ vs.length < 2 ^ 31 ∧ ∀ v ∈ vs, fits ty v = true) ∧
  (∀ C, (K t).1 = .object C → Exa Z h a C ∧ ∀ (i : Nat) (f d : String), (K t).2[i]? = some (f, d) → ∃ v : Value, vs[i]? = some v ∧ Fld Z h a C f d (sh n0 v))
def Ow (K : Kt) (Z : State) (h : Heap) (n0 : Nat) (D : Hp) : Prop := h.size = n0 + D.length ∧ ∀ (k t : Nat) (vs : List Value), D[k]? = some (t, vs) → Ob1 K Z h n0 (n0 + k) t vs
def Lay (K : Kt) (Z : State) (a0 : Array Value) : Prop := ∀ t C, (K t).1 = .object C → (∀ q ∈ (K t).2, Laid Z a0 C C q.1 q.2 ∧ ∃ ty, parseFieldDescriptor q.2 = some ty) ∧ ((K t).2.map Prod.fst).Nodup
section OwnHeap
variable {K : Kt} {Z : State} {h h' : Heap} {n0 : Nat} {D D' : Hp} {a t i : Nat} {v : Value} {j : Int32} {C f d : String} {ty : FieldType}
theorem gV_e (hg : gV D a t i = some v) : ∃ vs, D[a]? = some (t, vs) ∧ vs[i]? = some v := by
  obtain ⟨⟨t', vs⟩, h1, h2⟩ := own_bind hg
  by_cases q : t' = t
  · subst q; rw [if_pos rfl] at h2; exact ⟨vs, h1, h2⟩
  · rw [if_neg q] at h2; cases h2
theorem gI_e {x : Int32} (hg : gI D a t i = some x) : gV D a t i = some (.int x) := by
  obtain ⟨w, h1, h2⟩ := own_bind hg
  cases w <;> cases h2; exact h1
theorem gJ_e {x : Int64} (hg : gJ D a t i = some x) : gV D a t i = some (.long x) := by
  obtain ⟨w, h1, h2⟩ := own_bind hg
  cases w <;> cases h2; exact h1
theorem gR_e {x : Nat} (hg : gR D a t i = some x) : gV D a t i = some (.ref x) := by
  obtain ⟨w, h1, h2⟩ := own_bind hg
  cases w <;> cases h2; exact h1
theorem ck_e {q : Nat} (hg : ck D a t = some q) : ∃ vs, D[a]? = some (t, vs) := by
  obtain ⟨⟨t', vs⟩, h1, h2⟩ := own_bind hg
  by_cases q : t' = t
  · subst q; exact ⟨vs, h1⟩
  · rw [if_neg q] at h2; cases h2
theorem rV_e (hg : rV D a t j = some v) : ∃ vs, D[a]? = some (t, vs) ∧ ¬ j < 0 ∧ vs[j.toNatClampNeg]? = some v := by
  obtain ⟨⟨t', vs⟩, h1, h2⟩ := own_bind hg
  by_cases q : t' = t
  · subst q; rw [if_pos rfl] at h2
    by_cases r : j < 0
    · rw [if_pos r] at h2; cases h2
    · rw [if_neg r] at h2; exact ⟨vs, h1, r, h2⟩
  · rw [if_neg q] at h2; cases h2
theorem rI_e {x : Int32} (hg : rI D a t j = some x) : rV D a t j = some (.int x) := by
  obtain ⟨w, h1, h2⟩ := own_bind hg
  cases w <;> cases h2; exact h1
theorem rJ_e {x : Int64} (hg : rJ D a t j = some x) : rV D a t j = some (.long x) := by
  obtain ⟨w, h1, h2⟩ := own_bind hg
  cases w <;> cases h2; exact h1
theorem wV_e (hg : wV D a t j v = some D') : ∃ vs, D[a]? = some (t, vs) ∧ ¬ j < 0 ∧ j.toNatClampNeg < vs.length ∧ D' = D.set a (t, vs.set j.toNatClampNeg v) := by
  obtain ⟨⟨t', vs⟩, h1, h2⟩ := own_bind hg
  by_cases q : t' = t
  · subst q; rw [if_pos rfl] at h2
    by_cases r : j < 0
    · rw [if_pos r] at h2; cases h2
    · rw [if_neg r] at h2
      by_cases u : j.toNatClampNeg < vs.length
      · rw [if_pos u] at h2; cases h2; exact ⟨vs, h1, r, u, rfl⟩
      · rw [if_neg u] at h2; cases h2
  · rw [if_neg q] at h2; cases h2
theorem pV_e (hg : pV D a t i v = some D') : ∃ vs, D[a]? = some (t, vs) ∧ i < vs.length ∧ D' = D.set a (t, vs.set i v) := by
  obtain ⟨⟨t', vs⟩, h1, h2⟩ := own_bind hg
  by_cases q : t' = t
  · subst q; rw [if_pos rfl] at h2
    by_cases u : i < vs.length
    · rw [if_pos u] at h2; cases h2; exact ⟨vs, h1, u, rfl⟩
    · rw [if_neg u] at h2; cases h2
  · rw [if_neg q] at h2; cases h2
theorem cA_e {cap : Nat} (hg : cA' D a t cap = some D') : ∃ vs, D[a]? = some (t, vs) ∧ vs.length ≤ cap ∧ D' = D ++ [(t, vs)] := by
  obtain ⟨⟨t', vs⟩, h1, h2⟩ := own_bind hg
  by_cases q : t' = t
  · subst q; rw [if_pos rfl] at h2
    by_cases u : vs.length ≤ cap
    · rw [if_pos u] at h2; cases h2; exact ⟨vs, h1, u, rfl⟩
    · rw [if_neg u] at h2; cases h2
  · rw [if_neg q] at h2; cases h2
theorem lA_e {x : Int32} (hg : lA D a t = some x) : ∃ vs, D[a]? = some (t, vs) ∧ x = vs.length.toInt32 := by
  obtain ⟨⟨t', vs⟩, h1, h2⟩ := own_bind hg
  by_cases q : t' = t
  · subst q; rw [if_pos rfl] at h2; cases h2; exact ⟨vs, h1, rfl⟩
  · rw [if_neg q] at h2; cases h2
theorem Ow.fld (O : Ow K Z h n0 D) (hg : gV D a t i = some v) (hK : (K t).1 = .object C) (hf : (K t).2[i]? = some (f, d)) : Fld Z h (n0 + a) C f d (sh n0 v) := by
  obtain ⟨vs, h1, h2⟩ := gV_e hg
  obtain ⟨w, h3, h4⟩ := ((O.2 a t vs h1).2 C hK).2 i f d hf
  cases h2.symm.trans h3; exact h4
theorem Ow.fld0 (O : Ow K Z h n0 D) (hg : pV D a t i v = some D') (hK : (K t).1 = .object C) (hf : (K t).2[i]? = some (f, d)) : ∃ w, Fld Z h (n0 + a) C f d w := by
  obtain ⟨vs, h1, h2, -⟩ := pV_e hg
  obtain ⟨w, h3, h4⟩ := ((O.2 a t vs h1).2 C hK).2 i f d hf
  exact ⟨_, h4⟩
theorem Ow.exa (O : Ow K Z h n0 D) {vs : List Value} (hg : D[a]? = some (t, vs)) (hK : (K t).1 = .object C) : Exa Z h (n0 + a) C := ((O.2 a t vs hg).2 C hK).1
theorem Ow.exaC (O : Ow K Z h n0 D) {q : Nat} (hg : ck D a t = some q) (hK : (K t).1 = .object C) : Exa Z h (n0 + a) C := by
  obtain ⟨vs, h1⟩ := ck_e hg; exact O.exa h1 hK
theorem Ow.exaP (O : Ow K Z h n0 D) (hg : pV D a t i v = some D') (hK : (K t).1 = .object C) : Exa Z h (n0 + a) C := by
  obtain ⟨vs, h1, -⟩ := pV_e hg; exact O.exa h1 hK
theorem sh_len (vs : List Value) : ((vs.map (sh n0)).toArray).size = vs.length := by simp
/-- the array at a, its cell, that the place j lies in it and what it holds -/
theorem Ow.arrR (O : Ow K Z h n0 D) (hg : rV D a t j = some v) (hK : (K t).1 = .array ty) : ∃ c : Cell, Arr Z h (n0 + a) c ty ∧ ¬ (j < 0 ∨ c.slots.size ≤ j.toNatClampNeg) ∧ c.slots[j.toNatClampNeg]? = some (sh n0 v) := by
  obtain ⟨vs, h1, h2, h3⟩ := rV_e hg
  obtain ⟨-, c, A, hs, -, -⟩ := (O.2 a t vs h1).1 ty hK
  have hlt := (List.getElem?_eq_some_iff.mp h3).1
  refine ⟨c, A, ?_, ?_⟩
  · rw [hs, sh_len]; intro q; rcases q with q | q
    · exact h2 q
    · omega
  · rw [hs]; simp [h3]
theorem Ow.arrL (O : Ow K Z h n0 D) {x : Int32} (hg : lA D a t = some x) (hK : (K t).1 = .array ty) : ∃ c : Cell, Arr Z h (n0 + a) c ty ∧ c.slots.size.toInt32 = x := by
  obtain ⟨vs, h1, h2⟩ := lA_e hg
  obtain ⟨-, c, A, hs, -, -⟩ := (O.2 a t vs h1).1 ty hK
  exact ⟨c, A, by rw [hs, sh_len, h2]⟩
theorem Ow.arrW (O : Ow K Z h n0 D) (hg : wV D a t j v = some D') (hK : (K t).1 = .array ty) : ∃ c : Cell, Arr Z h (n0 + a) c ty ∧ ¬ (j < 0 ∨ c.slots.size ≤ j.toNatClampNeg) := by
  obtain ⟨vs, h1, h2, h3, -⟩ := wV_e hg
  obtain ⟨-, c, A, hs, -, -⟩ := (O.2 a t vs h1).1 ty hK
  refine ⟨c, A, ?_⟩
  rw [hs, sh_len]; intro q; rcases q with q | q
  · exact h2 q
  · omega
theorem own_get_set {k : Nat} {ob ob' : Nat × List Value} (hk : (D.set a ob)[k]? = some ob') : (k = a ∧ ob' = ob ∧ a < D.length) ∨ (k ≠ a ∧ D[k]? = some ob') := by
  by_cases q : k = a
  · subst q
    rw [List.getElem?_set] at hk
    simp only [if_true] at hk
    by_cases r : k < D.length
    · rw [if_pos r] at hk; cases hk; exact Or.inl ⟨rfl, rfl, r⟩
    · rw [if_neg r] at hk; cases hk
  · rw [List.getElem?_set_ne (Ne.symm q)] at hk; exact Or.inr ⟨q, hk⟩
theorem Ob1.other {x y k : Nat} {vs : List Value} {w : Value} {sl : Nat} (B : Ob1 K Z h n0 x k vs) (W : Wr h h' y sl w) (hne : x ≠ y) : Ob1 K Z h' n0 x k vs := by
  refine ⟨fun ty hK => ?_, fun C hK => ?_⟩
  · obtain ⟨E, c, A, r⟩ := B.1 ty hK
    exact ⟨E.wr W, c, A.other W hne, r⟩
  · obtain ⟨E, F⟩ := B.2 C hK
    refine ⟨E.wr W, fun i f d hi => ?_⟩
    obtain ⟨v, h1, h2⟩ := F i f d hi
    exact ⟨v, h1, h2.other W (Or.inl hne)⟩
theorem Ow.st (O : Ow K Z h n0 D) (hg : wV D a t j v = some D') (hK : (K t).1 = .array ty) (hfit : fits ty v = true) (W : Wr h h' (n0 + a) j.toNatClampNeg (sh n0 v)) : Ow K Z h' n0 D' := by
  obtain ⟨vs, h1, h2, h3, rfl⟩ := wV_e hg
  refine ⟨by rw [W.size, O.1, List.length_set], fun k t' vs' hk => ?_⟩
  rcases own_get_set hk with ⟨rfl, e, -⟩ | ⟨hne, hk'⟩
  · cases e
    refine ⟨fun ty' hK' => ?_, fun C hK' => ?_⟩
    · cases hK.symm.trans hK'
      obtain ⟨E, c, A, hs, hl, hf⟩ := (O.2 _ _ vs h1).1 _ hK
      refine ⟨E.wr W, _, A.same W, ?_, by rw [List.length_set]; exact hl, fun w hw => ?_⟩
      · simp only [Cell.setSlot, hs]
        rw [List.map_set]
        simp
      · rcases List.mem_or_eq_of_mem_set hw with q | q
        · exact hf w q
        · rw [q]; exact hfit
    · rw [hK] at hK'; cases hK'
  · exact (O.2 k t' vs' hk').other W (by omega)
theorem Ow.put {a0 : Array Value} (O : Ow K Z h n0 D) (hL : Lay K Z a0) (hg : pV D a t i v = some D') (hK : (K t).1 = .object C) (hf : (K t).2[i]? = some (f, d)) (W : Wr h h' (n0 + a) (Jvm.RoadKit.slotOf Z C f d) (sh n0 v)) : Ow K Z h' n0 D' := by
  obtain ⟨vs, h1, h3, rfl⟩ := pV_e hg
  refine ⟨by rw [W.size, O.1, List.length_set], fun k t' vs' hk => ?_⟩
  rcases own_get_set hk with ⟨rfl, e, -⟩ | ⟨hne, hk'⟩
  · cases e
    refine ⟨fun ty' hK' => (by rw [hK] at hK'; cases hK'), fun C' hK' => ?_⟩
    cases hK.symm.trans hK'
    obtain ⟨E, F⟩ := (O.2 _ _ vs h1).2 _ hK
    refine ⟨E.wr W, fun i' f' d' hi' => ?_⟩
    obtain ⟨w, g1, g2⟩ := F i' f' d' hi'
    by_cases q : i' = i
    · subst q
      cases hf.symm.trans hi'
      exact ⟨v, by rw [List.getElem?_set]; simp [h3], g2.same W⟩
    · refine ⟨w, by rw [List.getElem?_set_ne (Ne.symm q)]; exact g1, g2.other W (Or.inr ?_)⟩
      obtain ⟨hl, hn⟩ := hL t C hK
      obtain ⟨l1, ty1, p1⟩ := hl _ (List.mem_of_getElem? hf)
      obtain ⟨l2, ty2, p2⟩ := hl _ (List.mem_of_getElem? hi')
      refine slot_ne l2 l1 (fun e => q ?_) p2 p1
      have m1 : ((K t).2.map Prod.fst)[i]? = some f := by rw [List.getElem?_map, hf]; rfl
      have m2 : ((K t).2.map Prod.fst)[i']? = some f' := by rw [List.getElem?_map, hi']; rfl
      obtain ⟨b1, c1⟩ := List.getElem?_eq_some_iff.mp m1
      obtain ⟨b2, c2⟩ := List.getElem?_eq_some_iff.mp m2
      exact (List.getElem_inj hn).mp (by rw [c1, c2]; exact e)
  · exact (O.2 k t' vs' hk').other W (by omega)
theorem Ob1.ext {x k : Nat} {vs : List Value} (B : Ob1 K Z h n0 x k vs) (E : Ext h h') : Ob1 K Z h' n0 x k vs := by
  refine ⟨fun ty hK => ?_, fun C hK => ?_⟩
  · obtain ⟨F, c, A, r⟩ := B.1 ty hK
    exact ⟨F.ext E, c, A.ext E, r⟩
  · obtain ⟨X, F⟩ := B.2 C hK
    refine ⟨X.ext E, fun i f d hi => ?_⟩
    obtain ⟨v, h1, h2⟩ := F i f d hi
    exact ⟨v, h1, h2.ext E⟩
theorem Ow.push {vs : List Value} (O : Ow K Z h n0 D) (E : Ext h h') (hsz : h'.size = h.size + 1) (B : Ob1 K Z h' n0 (n0 + D.length) t vs) : Ow K Z h' n0 (D ++ [(t, vs)]) := by
  refine ⟨by rw [hsz, O.1, List.length_append]; rfl, fun k t' vs' hk => ?_⟩
  by_cases q : k < D.length
  · rw [List.getElem?_append_left q] at hk; exact (O.2 k t' vs' hk).ext E
  · rw [List.getElem?_append_right (Nat.le_of_not_lt q)] at hk
    have e : k - D.length = 0 := by
      have := (List.getElem?_eq_some_iff.mp hk).1
      simp only [List.length_singleton] at this; omega
    rw [e] at hk
    have hk2 : (t, vs) = (t', vs') := Option.some.inj hk
    cases hk2
    have : k = D.length := by omega
    rw [this]; exact B
theorem sh_default (ty : FieldType) : sh n0 (defaultValue ty) = defaultValue ty := by cases ty <;> rfl
theorem own_ow0 (h : Heap) : Ow K Z h h.size [] := ⟨by simp, fun k t vs hk => by simp at hk⟩
end OwnHeap
/-! 3. the laws of the library, over that list -/
section OwnLaws
variable {p : Program} {l : Launch} {e : Env} {R : Room} {s : State} {m : MethodId} {args : Array Value} {below : List Frame} {meth : Method} {c : Code} {T : State} {locs : List Loc} {cells slots : Nat} {Z : State} {a0 : Array Value} {h : Heap} {K : Kt} {n0 : Nat} {D D' : Hp} {a t : Nat}
theorem ldW (X : Stand p l e R s m args below meth c T locs cells slots) (hx : p.tables.exec = Jvm.exec) (hZ : Z.Warmed39 s.vm) (eT : T.heap = h) (O : Ow K Z h n0 D) {j : Int32} {x : Int32} (hg : rI D a t j = some x) (hK : (K t).1 = .array .int)
    {g : JFrame} (hgm : g.method = m) {rest : List Value} (hs : g.stack = .int j :: .ref (n0 + a) :: rest) (hd : decode c.code g.pc = .ok (.iaload, 1)) (target : State)
    (hr : Steps p.tables e below (T.setTop { g with pc := g.pc + 1, stack := .int x :: rest }) target) : Steps p.tables e below (T.setTop g) target := by
  obtain ⟨cl, A, hin, hat⟩ := O.arrR (rI_e hg) hK
  exact X.iaload hx (v := .int x) (by rw [eT]; exact A.1) (State.isArrayOf_alike hZ.alike A.2.1) A.2.2 hin hat hgm hs hd target hr
theorem ldB (X : Stand p l e R s m args below meth c T locs cells slots) (hx : p.tables.exec = Jvm.exec) (hZ : Z.Warmed39 s.vm) (eT : T.heap = h) (O : Ow K Z h n0 D) {j : Int32} {x : Int32} (hg : rI D a t j = some x) (hK : (K t).1 = .array .byte)
    {g : JFrame} (hgm : g.method = m) {rest : List Value} (hs : g.stack = .int j :: .ref (n0 + a) :: rest) (hd : decode c.code g.pc = .ok (.baload, 1)) (target : State)
    (hr : Steps p.tables e below (T.setTop { g with pc := g.pc + 1, stack := .int x :: rest }) target) : Steps p.tables e below (T.setTop g) target := by
  obtain ⟨cl, A, hin, hat⟩ := O.arrR (rI_e hg) hK
  exact X.baloadBytes hx (v := .int x) (by rw [eT]; exact A.1) (State.isArrayOf_alike hZ.alike A.2.1) A.2.2 hin hat hgm hs hd target hr
theorem ldJ (X : Stand p l e R s m args below meth c T locs cells slots) (hx : p.tables.exec = Jvm.exec) (hZ : Z.Warmed39 s.vm) (eT : T.heap = h) (O : Ow K Z h n0 D) {j : Int32} {x : Int64} (hg : rJ D a t j = some x) (hK : (K t).1 = .array .long)
    {g : JFrame} (hgm : g.method = m) {rest : List Value} (hs : g.stack = .int j :: .ref (n0 + a) :: rest) (hd : decode c.code g.pc = .ok (.laload, 1)) (target : State)
    (hr : Steps p.tables e below (T.setTop { g with pc := g.pc + 1, stack := .long x :: rest }) target) : Steps p.tables e below (T.setTop g) target := by
  obtain ⟨cl, A, hin, hat⟩ := O.arrR (rJ_e hg) hK
  exact X.laload hx (v := .long x) (by rw [eT]; exact A.1) (State.isArrayOf_alike hZ.alike A.2.1) A.2.2 hin hat hgm hs hd target hr
theorem lenW' (X : Stand p l e R s m args below meth c T locs cells slots) (hx : p.tables.exec = Jvm.exec) (hZ : Z.Warmed39 s.vm) (eT : T.heap = h) (O : Ow K Z h n0 D) {x : Int32} (hg : lA D a t = some x) {ty : FieldType} (hK : (K t).1 = .array ty)
    {g : JFrame} (hgm : g.method = m) {rest : List Value} (hs : g.stack = .ref (n0 + a) :: rest) (hd : decode c.code g.pc = .ok (.arraylength, 1)) (target : State)
    (hr : Steps p.tables e below (T.setTop { g with pc := g.pc + 1, stack := .int x :: rest }) target) : Steps p.tables e below (T.setTop g) target := by
  obtain ⟨cl, A, hl⟩ := O.arrL hg hK
  subst hl
  exact X.arraylength hx (by rw [eT]; exact A.1) (State.isArrayOf_alike hZ.alike A.2.1) hgm hs hd target hr
theorem stIW (X : Stand p l e R s m args below meth c T locs cells slots) (hx : p.tables.exec = Jvm.exec) (hZ : Z.Warmed39 s.vm) (eT : T.heap = h) (O : Ow K Z h n0 D) (N : Fr n0 locs) {j x : Int32} (hg : wV D a t j (.int x) = some D') (hK : (K t).1 = .array .int)
    {g : JFrame} (hgm : g.method = m) {rest : List Value} (hs : g.stack = .int x :: .int j :: .ref (n0 + a) :: rest) (hd : decode c.code g.pc = .ok (.iastore, 1)) :
    ∃ T' h' L, Stand p l e R s m args below meth c T' L cells slots ∧ T'.heap = h' ∧ Ow K Z h' n0 D' ∧ Fr n0 L ∧ ∀ target, Steps p.tables e below (T'.setTop { g with pc := g.pc + 1, stack := rest }) target → Steps p.tables e below (T.setTop g) target := by
  obtain ⟨cl, A, hin⟩ := O.arrW hg hK
  obtain ⟨T', h', X', e', W, st⟩ := stI X hx hZ eT A hin hgm hs hd
  exact ⟨T', h', _, X', e', O.st hg hK rfl W, Fr.snoc X' N (Nat.le_add_right _ _), st⟩
theorem stBW (X : Stand p l e R s m args below meth c T locs cells slots) (hx : p.tables.exec = Jvm.exec) (hZ : Z.Warmed39 s.vm) (eT : T.heap = h) (O : Ow K Z h n0 D) (N : Fr n0 locs) {j x : Int32} (hg : wV D a t j (.int x.toInt8.toInt32) = some D') (hK : (K t).1 = .array .byte)
    {g : JFrame} (hgm : g.method = m) {rest : List Value} (hs : g.stack = .int x :: .int j :: .ref (n0 + a) :: rest) (hd : decode c.code g.pc = .ok (.bastore, 1)) :
    ∃ T' h' L, Stand p l e R s m args below meth c T' L cells slots ∧ T'.heap = h' ∧ Ow K Z h' n0 D' ∧ Fr n0 L ∧ ∀ target, Steps p.tables e below (T'.setTop { g with pc := g.pc + 1, stack := rest }) target → Steps p.tables e below (T.setTop g) target := by
  obtain ⟨cl, A, hin⟩ := O.arrW hg hK
  obtain ⟨T', h', X', e', W, st⟩ := stB X hx hZ eT A hin hgm hs hd
  exact ⟨T', h', _, X', e', O.st hg hK (fits_nar_byte _) W, Fr.snoc X' N (Nat.le_add_right _ _), st⟩
theorem stJW (X : Stand p l e R s m args below meth c T locs cells slots) (hx : p.tables.exec = Jvm.exec) (hZ : Z.Warmed39 s.vm) (eT : T.heap = h) (O : Ow K Z h n0 D) (N : Fr n0 locs) {j : Int32} {x : Int64} (hg : wV D a t j (.long x) = some D') (hK : (K t).1 = .array .long)
    {g : JFrame} (hgm : g.method = m) {rest : List Value} (hs : g.stack = .long x :: .int j :: .ref (n0 + a) :: rest) (hd : decode c.code g.pc = .ok (.lastore, 1)) :
    ∃ T' h' L, Stand p l e R s m args below meth c T' L cells slots ∧ T'.heap = h' ∧ Ow K Z h' n0 D' ∧ Fr n0 L ∧ ∀ target, Steps p.tables e below (T'.setTop { g with pc := g.pc + 1, stack := rest }) target → Steps p.tables e below (T.setTop g) target := by
  obtain ⟨cl, A, hin⟩ := O.arrW hg hK
  obtain ⟨T', h', X', e', W, st⟩ := stJ X hx hZ eT A hin hgm hs hd
  exact ⟨T', h', _, X', e', O.st hg hK rfl W, Fr.snoc X' N (Nat.le_add_right _ _), st⟩
theorem putW (X : Stand p l e R s m args below meth c T locs cells slots) (hx : p.tables.exec = Jvm.exec) (hZ : Z.Warmed39 s.vm) {own C f d : String} {index kk i : Nat} {ty : FieldType} (hown : s.vm.findClass own = some m.cls) (w : (Cond.fieldLink own index C f d).before a0 Z = true) (hL : Lay K Z a0)
    (eT : T.heap = h) (O : Ow K Z h n0 D) (N : Fr n0 locs) {v : Value} (hg : pV D a t i v = some D') (hK : (K t).1 = .object C) (hf : (K t).2[i]? = some (f, d)) (L : (Cond.lays C C f d).before a0 Z = true ∨ ((Cond.laysFinal C C f d).before a0 Z = true ∧ own = C ∧ meth.name = "<init>")) (wi : (Cond.instantiable C kk).before a0 Z = true)
    (hty : parseFieldDescriptor d = some ty) (hn : narrow ty (sh n0 v) = sh n0 v) (hfit : fits ty (sh n0 v) = true) {g : JFrame} (hgm : g.method = m) {rest : List Value} (hs : g.stack = sh n0 v :: .ref (n0 + a) :: rest) (hd : decode c.code g.pc = .ok (.putfield index, 3)) :
    ∃ T' h' L, Stand p l e R s m args below meth c T' L cells slots ∧ T'.heap = h' ∧ Ow K Z h' n0 D' ∧ Fr n0 L ∧ ∀ target, Steps p.tables e below (T'.setTop { g with pc := g.pc + 3, stack := rest }) target → Steps p.tables e below (T.setTop g) target := by
  obtain ⟨old, F⟩ := O.fld0 hg hK hf
  obtain ⟨T', h', X', e', W, st⟩ := putF X hx hZ hown (host := "") (Or.inl w) Via.refl eT F (O.exaP hg hK) L wi hty hn hfit hgm hs hd
  exact ⟨T', h', _, X', e', O.put hL hg hK hf W, Fr.snoc X' N (Nat.le_add_right _ _), st⟩
theorem newW (X : Stand p l e R s m args below meth c T locs cells slots) (hx : p.tables.exec = Jvm.exec) (hZ : Z.Warmed39 s.vm) {own C : String} {index n : Nat} (hown : s.vm.findClass own = some m.cls) (w : (Cond.classLink own index C).before a0 Z = true) (wi : (Cond.instantiable C n).before a0 Z = true) (wz : (Cond.initialized C).before a0 Z = true) (hL : Lay K Z a0) (eT : T.heap = h) (O : Ow K Z h n0 D)
    (hK : (K t).1 = .object C) {ds : List Value} (hds : ∀ q ∈ (K t).2.zipIdx, ∃ ty, parseFieldDescriptor q.1.2 = some ty ∧ ds[q.2]? = some (defaultValue ty)) {g : JFrame} (hg : g.method = m) (hd : decode c.code g.pc = .ok (.new index, 3)) (hc : cells + 1 ≤ R.cells) (hl : slots + n ≤ R.slots) :
    ∃ T' h', Stand p l e R s m args below meth c T' locs (cells + 1) (slots + n) ∧ T'.heap = h' ∧ Ow K Z h' n0 (D ++ [(t, ds)]) ∧ ∀ target, Steps p.tables e below (T'.setTop { g with pc := g.pc + 3, stack := .ref (n0 + D.length) :: g.stack }) target → Steps p.tables e below (T.setTop g) target := by
  obtain ⟨vm', cC, kC, h1, h2, h3, h4, X', st⟩ := X.newCold hx hown (mv hZ w) (mv hZ wi) (mv hZ wz) hg hd hc hl
  subst eT
  rw [hZ.alike.findClass] at h1
  obtain ⟨kZ, z1, -⟩ := Vm.findClass_spec h1
  obtain ⟨k', z2, z3⟩ := hZ.alike.2.2 _ _ z1
  cases h2.symm.trans z2
  have ei : kC.instanceTypes = kZ.instanceTypes := by rw [z3]
  have hN : (T.heap.push { cls := cC, slots := kC.instanceTypes.map defaultValue, vm := .none })[T.heap.size]? = some { cls := cC, slots := kC.instanceTypes.map defaultValue, vm := .none } := by simp
  have E : Ext T.heap (T.heap.push { cls := cC, slots := kC.instanceTypes.map defaultValue, vm := .none }) := ⟨by simp, fun a c h => by
    rw [Array.getElem?_push_lt (Array.getElem?_eq_some_iff.mp h).1]; exact (Array.getElem?_eq_getElem _).symm.trans h⟩
  have hsz := O.1
  refine ⟨_, _, X', rfl, O.push E (by simp) ⟨fun ty hK' => (by rw [hK] at hK'; cases hK'), fun C' hK' => ?_⟩, by rw [← hsz]; exact st⟩
  cases hK.symm.trans hK'
  rw [← hsz]
  refine ⟨⟨_, kZ, hN, h1, z1, rfl, fun _ => by simp [ei]⟩, fun i f d hi => ?_⟩
  obtain ⟨ty, t1, t2⟩ := hds ((f, d), i) (List.mem_zipIdx_iff_getElem?.mpr hi)
  refine ⟨_, t2, ?_⟩
  rw [sh_default]
  obtain ⟨c1, k1, cf, kf, i', f', a1, a2, a3, a4, a5, a6, -⟩ := ((hL t C hK).1 _ (List.mem_of_getElem? hi)).1.spec
  cases h1.symm.trans a1
  cases z1.symm.trans a2
  exact ⟨_, cf, kf, i', f', hN, a3, a4, by simp, rfl, a5, by simp [ei, a6, (State.fieldFound?_type a3 t1).2]⟩
theorem newAW (X : Stand p l e R s m args below meth c T locs cells slots) (hx : p.tables.exec = Jvm.exec) (hZ : Z.Warmed39 s.vm) {aty : ArrayType} (w : (Cond.arrayClass (newarray.typeOf aty)).before a0 Z = true) (eT : T.heap = h) (O : Ow K Z h n0 D) (hK : (K t).1 = .array (newarray.typeOf aty))
    {n : Int32} {cap : Nat} {z : Value} (hz : z = defaultValue (newarray.typeOf aty)) (hn : nA D t n cap z = some D') {g : JFrame} (hg : g.method = m) (hd : decode c.code g.pc = .ok (.newarray aty, 2)) {rest : List Value} (hs : g.stack = .int n :: rest)
    (hb : cap * 8 ≤ 536870912) (hc : cells + 1 ≤ R.cells) (hl : slots + cap ≤ R.slots) :
    ∃ T' h', Stand p l e R s m args below meth c T' locs (cells + 1) (slots + cap) ∧ T'.heap = h' ∧ Ow K Z h' n0 D' ∧ ∀ target, Steps p.tables e below (T'.setTop { g with pc := g.pc + 2, stack := .ref (n0 + D.length) :: rest }) target → Steps p.tables e below (T.setTop g) target := by
  have hcb : componentBytes (newarray.typeOf aty) ≤ 8 := by cases aty <;> decide
  by_cases q : n < 0
  · simp only [nA, if_pos q] at hn; cases hn
  simp only [nA, if_neg q] at hn
  by_cases hcap : n.toNatClampNeg ≤ cap
  · rw [if_pos hcap] at hn
    cases hn
    obtain ⟨cA, kA, comp, h1, h2, h3, X', st⟩ := X.newarrayPrim hx (mvA hZ w) hg hd hs q (Nat.le_trans (Nat.mul_le_mul hcap hcb) hb) hc (by omega)
    subst eT
    rw [hZ.alike.findClass] at h1
    obtain ⟨kZ, z1, -⟩ := Vm.findClass_spec h1
    obtain ⟨k', z2, z3⟩ := hZ.alike.2.2 _ _ z1
    cases h2.symm.trans z2
    have hsz := O.1
    refine ⟨_, _, X'.more (Nat.le_refl _) (by omega), rfl, O.push (h' := T.heap.push _) ⟨by simp, fun a c h => ?_⟩ (by simp) ⟨fun ty hK' => ?_, fun C hK' => by rw [hK] at hK'; cases hK'⟩, by rw [← hsz]; exact st⟩
    · rw [Array.getElem?_push_lt (Array.getElem?_eq_some_iff.mp h).1]; exact (Array.getElem?_eq_getElem _).symm.trans h
    · cases hK.symm.trans hK'
      rw [← hsz]
      have ek : kZ.kind = .array comp (newarray.typeOf aty) := by rw [← h3, z3]
      refine ⟨⟨_, kZ, Array.getElem?_push_size, h1, z1, rfl, fun q => by rw [ek] at q; cases q⟩, _, ⟨Array.getElem?_push_size, ⟨by simp, kZ, z1, comp, ek⟩, by simp⟩, ?_, ?_, fun v hv => ?_⟩
      · rw [hz, List.map_replicate, sh_default]; simp
      · rw [List.length_replicate]; exact (back32 q).2
      · rw [(List.mem_replicate.mp hv).2, hz]; cases aty <;> rfl
  · rw [if_neg hcap] at hn; cases hn
/-! 4. contracts and calls -/
def Qw (K : Kt) (Z : State) (n0 : Nat) (r : Option Value) (D' : Hp) : Option Value → Heap → List Loc → Prop := fun v h L => v = r ∧ Fr n0 L ∧ Ow K Z h n0 D'
def Ct (K : Kt) (l : Launch) (Z : State) (y : MethodName) (cw : Jvm.Cond) (rm : Room) (n0 : Nat) (D : Hp) (as' : Array Value) (r : Option Value) (D' : Hp) : Prop :=
  ∀ (h0 : Heap) (ws : List Jvm.Cond), Ow K Z h0 n0 D → MetFree l y (head1 (cw :: ws) rm) (fun a U => a = as' ∧ Z.Warmed39 U.vm ∧ U.heap = h0) (fun _ _ _ _ _ => True) (fun _ U o U' => ∃ v L, o = .returned v ∧ Qw K Z n0 r D' v U'.heap L ∧ FrameEnd U o U' L rm.cells rm.slots)
/-- what stands still through a body -/
def Cx (p : Program) (s : State) (m : MethodId) (meth : Method) (c : Code) (Z : State) (bytes : ByteArray) (maxL : Nat) (ret : Option FieldType) (own nm : String) : Prop :=
  p.tables.exec = Jvm.exec ∧ Z.Warmed39 s.vm ∧ c.code = bytes ∧ c.maxLocals = maxL ∧ s.vm.findClass own = some m.cls ∧ meth.name = nm ∧ meth.sig.returnType = ret ∧ meth.locks = false
variable {y : MethodName} {bytes : ByteArray} {maxL : Nat} {ret : Option FieldType} {rm : Room} {r : Option Value}
theorem Ct.of {as' : Array Value} (hpl : plainFor y = true) (body : ∀ (p : Program) (e : Env) (s : State) (m : MethodId) (below : List Frame) (meth : Method) (c : Code) (s₁ : State) (h0 : Heap), Cx p s m meth c Z bytes maxL ret y.cls y.name → Stand p l e rm s m as' below meth c s₁ [] 0 0 → s₁.heap = h0 → Ow K Z h0 n0 D →
      Gl p e below s rm.cells rm.slots (Qw K Z n0 r D') (s₁.setTop (entryFrame m as' maxL))) : Ct K l Z y (.code y bytes maxL ret) rm n0 D as' r D' := by
  intro h0 ws O
  refine MetFree.of_bodySF hpl hisR ?_
  intro p e s m args below meth c s₁ Bd hml0 hP hK
  obtain ⟨rfl, hZ, hh⟩ := hP
  exact body p e s m below meth c s₁ h0 ⟨Bd.exec, hZ, Bd.bytes, hml0, findClass_of_methodNamed Bd.named, (name_of_methodNamed Bd.named Bd.method).1, Bd.returns, BodyLoose.notSynchronized Bd⟩ (Stand.of_body Bd) (by rw [← hh, Bd.state]; rfl) O
theorem Ct.ofH {as' : Array Value} {hs : List (Nat × Nat × Nat × Nat)} (hpl : plainFor y = true) (body : ∀ (p : Program) (e : Env) (s : State) (m : MethodId) (below : List Frame) (meth : Method) (c : Code) (s₁ : State) (h0 : Heap), Cx p s m meth c Z bytes maxL ret y.cls y.name → Stand p l e rm s m as' below meth c s₁ [] 0 0 → s₁.heap = h0 → Ow K Z h0 n0 D →
      Gl p e below s rm.cells rm.slots (Qw K Z n0 r D') (s₁.setTop (entryFrame m as' maxL))) : Ct K l Z y (.codeWith y bytes maxL ret hs) rm n0 D as' r D' := by
  intro h0 ws O
  refine MetFree.of_bodySF hpl hisWith ?_
  intro p e s m args below meth c s₁ Bd hml0 hP hK
  obtain ⟨rfl, hZ, hh⟩ := hP
  exact body p e s m below meth c s₁ h0 ⟨Bd.exec, hZ, Bd.bytes, hml0, findClass_of_methodNamed Bd.named, (name_of_methodNamed Bd.named Bd.method).1, Bd.returns, BodyLoose.notSynchronized Bd⟩ (Stand.of_body Bd) (by rw [← hh, Bd.state]; rfl) O
theorem callSW (X : Stand p l e R s m args below meth c T locs cells slots) (hx : p.tables.exec = Jvm.exec) (hZ : Z.Warmed39 s.vm) {own : String} {index : Nat} (hown : s.vm.findClass own = some m.cls) (w1 : (Cond.methodLink own index y).before a0 Z = true) (w2 : (Cond.static y).before a0 Z = true) (w3 : (Cond.initialized y.cls).before a0 Z = true) (w4 : (Cond.code y bytes maxL ret).before a0 Z = true)
    (hy : y.cls ≠ "java/lang/invoke/MethodHandle" ∧ y.cls ≠ "java/lang/invoke/VarHandle") (eT : T.heap = h) (O : Ow K Z h n0 D) (N : Fr n0 locs) {as' : List Value} (hM : Ct K l Z y (.code y bytes maxL ret) rm n0 D as'.toArray r D') {W kc ks : Nat} (hkc : rm.cells = kc) (hks : rm.slots = ks) (hf : rm.frames + 1 ≤ R.frames) (hl : W + (maxL + 11) + rm.locals ≤ R.locals)
    {g : JFrame} (hg : g.method = m) (hsize : g.locals.size = c.maxLocals) {rest : List Value} (hlen : ∀ sig, parseMethodDescriptor y.desc = some sig → as'.length = sig.parameters.length) (hs : g.stack = as'.reverse ++ rest) (hW : 2 * g.monitorRoom + (rest.map fun v => v.category).sum ≤ W) (hd : decode c.code g.pc = .ok (.invokestatic index, 3)) (hc : cells + kc ≤ R.cells) (hsl : slots + ks ≤ R.slots) :
    ∃ T' h' L, Stand p l e R s m args below meth c T' L (cells + kc) (slots + ks) ∧ T'.heap = h' ∧ Ow K Z h' n0 D' ∧ Fr n0 L ∧ ∀ target, Steps p.tables e below (T'.setTop { g with pc := g.pc + 3, stack := r.toList ++ rest }) target → Steps p.tables e below (T.setTop g) target := by
  subst hkc hks
  obtain ⟨_, _, ⟨T', L', k', n'⟩, -, X', ⟨Lc, hQ, hL, hk, hn⟩, st⟩ := Jvm.LawKit.callS X hx hown (mvT hZ w1) (mvT hZ w2) (mvT hZ w3) (mvT hZ w4) hy (backOf (W := W) (hM h [] O) hZ w4 w3 hf hl) hg hsize (argsL := as') hlen hs hW hd (fun _ _ => ⟨rfl, eT, hc, hsl⟩)
  dsimp only [Pt.U, Pt.locs, Pt.cells, Pt.slots] at X' hL hk hn st hQ
  subst hL hk hn
  obtain ⟨rfl, N', O'⟩ := hQ
  exact ⟨T', _, _, X', rfl, O', N.app N', st⟩
theorem callSHW (X : Stand p l e R s m args below meth c T locs cells slots) (hx : p.tables.exec = Jvm.exec) (hZ : Z.Warmed39 s.vm) {own : String} {index : Nat} {hs' : List (Nat × Nat × Nat × Nat)} (hown : s.vm.findClass own = some m.cls) (w1 : (Cond.methodLink own index y).before a0 Z = true) (w2 : (Cond.static y).before a0 Z = true) (w3 : (Cond.initialized y.cls).before a0 Z = true) (w4 : (Cond.codeWith y bytes maxL ret hs').before a0 Z = true)
    (hy : y.cls ≠ "java/lang/invoke/MethodHandle" ∧ y.cls ≠ "java/lang/invoke/VarHandle") (eT : T.heap = h) (O : Ow K Z h n0 D) (N : Fr n0 locs) {as' : List Value} (hM : Ct K l Z y (.codeWith y bytes maxL ret hs') rm n0 D as'.toArray r D') {W kc ks : Nat} (hkc : rm.cells = kc) (hks : rm.slots = ks) (hf : rm.frames + 1 ≤ R.frames) (hl : W + (maxL + 11) + rm.locals ≤ R.locals)
    {g : JFrame} (hg : g.method = m) (hsize : g.locals.size = c.maxLocals) {rest : List Value} (hlen : ∀ sig, parseMethodDescriptor y.desc = some sig → as'.length = sig.parameters.length) (hs : g.stack = as'.reverse ++ rest) (hW : 2 * g.monitorRoom + (rest.map fun v => v.category).sum ≤ W) (hd : decode c.code g.pc = .ok (.invokestatic index, 3)) (hc : cells + kc ≤ R.cells) (hsl : slots + ks ≤ R.slots) :
    ∃ T' h' L, Stand p l e R s m args below meth c T' L (cells + kc) (slots + ks) ∧ T'.heap = h' ∧ Ow K Z h' n0 D' ∧ Fr n0 L ∧ ∀ target, Steps p.tables e below (T'.setTop { g with pc := g.pc + 3, stack := r.toList ++ rest }) target → Steps p.tables e below (T.setTop g) target := by
  subst hkc hks
  obtain ⟨_, _, ⟨T', L', k', n'⟩, -, X', ⟨Lc, hQ, hL, hk, hn⟩, st⟩ := callSH X hx hown (mvT hZ w1) (mvT hZ w2) (mvT hZ w3) (mvT hZ w4) hy (backOfWith (W := W) (hM h [] O) hZ w4 w3 hf hl) hg hsize (argsL := as') hlen hs hW hd (fun _ _ => ⟨rfl, eT, hc, hsl⟩)
  dsimp only [Pt.U, Pt.locs, Pt.cells, Pt.slots] at X' hL hk hn st hQ
  subst hL hk hn
  obtain ⟨rfl, N', O'⟩ := hQ
  exact ⟨T', _, _, X', rfl, O', N.app N', st⟩
theorem callIW (X : Stand p l e R s m args below meth c T locs cells slots) (hx : p.tables.exec = Jvm.exec) (hZ : Z.Warmed39 s.vm) {own : String} {index : Nat} (hy1 : y.name = "<init>") (hown : s.vm.findClass own = some m.cls) (w1 : (Cond.methodLink own index y).before a0 Z = true) (w2 : (Cond.instanceMethod y).before a0 Z = true) (w3 : (Cond.initialized y.cls).before a0 Z = true) (w4 : (Cond.code y bytes maxL none).before a0 Z = true)
    (hy : y.cls ≠ "java/lang/invoke/MethodHandle" ∧ y.cls ≠ "java/lang/invoke/VarHandle") (eT : T.heap = h) (O : Ow K Z h n0 D) (N : Fr n0 locs) {as' : List Value} (hM : Ct K l Z y (.code y bytes maxL none) rm n0 D (.ref (n0 + a) :: as').toArray r D') {W kc ks : Nat} (hkc : rm.cells = kc) (hks : rm.slots = ks) (hf : rm.frames + 1 ≤ R.frames) (hl : W + (maxL + 11) + rm.locals ≤ R.locals)
    {g : JFrame} (hg : g.method = m) (hsize : g.locals.size = c.maxLocals) {rest : List Value} (hlen : ∀ sig, parseMethodDescriptor y.desc = some sig → as'.length = sig.parameters.length) (hs : g.stack = as'.reverse ++ .ref (n0 + a) :: rest) (hW : 2 * g.monitorRoom + (rest.map fun v => v.category).sum ≤ W) (hd : decode c.code g.pc = .ok (.invokespecial index, 3)) (hc : cells + kc ≤ R.cells) (hsl : slots + ks ≤ R.slots) :
    ∃ T' h' L, Stand p l e R s m args below meth c T' L (cells + kc) (slots + ks) ∧ T'.heap = h' ∧ Ow K Z h' n0 D' ∧ Fr n0 L ∧ ∀ target, Steps p.tables e below (T'.setTop { g with pc := g.pc + 3, stack := r.toList ++ rest }) target → Steps p.tables e below (T.setTop g) target := by
  subst hkc hks
  obtain ⟨_, _, ⟨T', L', k', n'⟩, -, X', ⟨Lc, hQ, hL, hk, hn⟩, st⟩ := Jvm.LawKit.callI X hx hown hy1 (mvT hZ w1) (mvT hZ w2) (mvT hZ w4) hy (backOf (W := W) (hM h [] O) hZ w4 w3 hf hl) hg hsize (argsL := as') hlen hs hW hd (fun _ _ => ⟨rfl, eT, hc, hsl⟩)
  dsimp only [Pt.U, Pt.locs, Pt.cells, Pt.slots] at X' hL hk hn st hQ
  subst hL hk hn
  obtain ⟨rfl, N', O'⟩ := hQ
  exact ⟨T', _, _, X', rfl, O', N.app N', st⟩
theorem callVW (X : Stand p l e R s m args below meth c T locs cells slots) (hx : p.tables.exec = Jvm.exec) (hZ : Z.Warmed39 s.vm) {own C : String} {index : Nat} (hown : s.vm.findClass own = some m.cls) (w1 : (Cond.methodLink own index y).before a0 Z = true) (w2 : (Cond.declares y).before a0 Z = true) (w5 : (Cond.selects C y y).before a0 Z = true) (w6 : (Cond.instanceMethod y).before a0 Z = true) (w3 : (Cond.initialized y.cls).before a0 Z = true) (w4 : (Cond.code y bytes maxL ret).before a0 Z = true)
    (hy : y.cls ≠ "java/lang/invoke/MethodHandle" ∧ y.cls ≠ "java/lang/invoke/VarHandle") (eT : T.heap = h) (O : Ow K Z h n0 D) (N : Fr n0 locs) {q : Nat} (hck : ck D a t = some q) (hK : (K t).1 = .object C) {as' : List Value} (hM : Ct K l Z y (.code y bytes maxL ret) rm n0 D (.ref (n0 + a) :: as').toArray r D') {W kc ks : Nat} (hkc : rm.cells = kc) (hks : rm.slots = ks) (hf : rm.frames + 1 ≤ R.frames) (hl : W + (maxL + 11) + rm.locals ≤ R.locals)
    {g : JFrame} (hg : g.method = m) (hsize : g.locals.size = c.maxLocals) {rest : List Value} (hlen : ∀ sig, parseMethodDescriptor y.desc = some sig → as'.length = sig.parameters.length) (hs : g.stack = as'.reverse ++ .ref (n0 + a) :: rest) (hW : 2 * g.monitorRoom + (rest.map fun v => v.category).sum ≤ W) (hd : decode c.code g.pc = .ok (.invokevirtual index, 3)) (hc : cells + kc ≤ R.cells) (hsl : slots + ks ≤ R.slots) :
    ∃ T' h' L, Stand p l e R s m args below meth c T' L (cells + kc) (slots + ks) ∧ T'.heap = h' ∧ Ow K Z h' n0 D' ∧ Fr n0 L ∧ ∀ target, Steps p.tables e below (T'.setTop { g with pc := g.pc + 3, stack := r.toList ++ rest }) target → Steps p.tables e below (T.setTop g) target := by
  subst hkc hks
  obtain ⟨cq, kq, qa, qb, qc⟩ := isOf hZ eT (O.exaC hck hK)
  obtain ⟨_, _, ⟨T', L', k', n'⟩, -, X', ⟨Lc, hQ, hL, hk, hn⟩, st⟩ := X.virtualBack hx (y := y) (z := y) hown (mvT hZ w1) (mvT hZ w2) (notFace_of_selects (args := #[]) (mvT hZ w5)) (mvT hZ w5) (mvT hZ w6) hy (backOf (W := W) (hM h [] O) hZ w4 w3 hf hl) qa qc hg hsize (Steps.refl _) (argsL := as') hlen hs hW hd (fun _ _ => ⟨rfl, eT, hc, hsl⟩)
  dsimp only [Pt.U, Pt.locs, Pt.cells, Pt.slots] at X' hL hk hn st hQ
  subst hL hk hn
  obtain ⟨rfl, N', O'⟩ := hQ
  exact ⟨T', _, _, X', rfl, O', N.app N', fun target k => st.trans k⟩
theorem callPW (X : Stand p l e R s m args below meth c T locs cells slots) (hx : p.tables.exec = Jvm.exec) (hZ : Z.Warmed39 s.vm) {own C : String} {index nk : Nat} (hown : s.vm.findClass own = some m.cls) (w1 : (Cond.methodLink own index y).before a0 Z = true) (w2 : (Cond.privateMethod y).before a0 Z = true) (w5 : (Cond.instantiable y.cls nk).before a0 Z = true) (w6 : (Cond.instanceMethod y).before a0 Z = true) (w3 : (Cond.initialized y.cls).before a0 Z = true) (w4 : (Cond.code y bytes maxL ret).before a0 Z = true)
    (hy : y.cls ≠ "java/lang/invoke/MethodHandle" ∧ y.cls ≠ "java/lang/invoke/VarHandle") (eT : T.heap = h) (O : Ow K Z h n0 D) (N : Fr n0 locs) {q : Nat} (hck : ck D a t = some q) (hK : (K t).1 = .object C) {as' : List Value} (hM : Ct K l Z y (.code y bytes maxL ret) rm n0 D (.ref (n0 + a) :: as').toArray r D') {W kc ks : Nat} (hkc : rm.cells = kc) (hks : rm.slots = ks) (hf : rm.frames + 1 ≤ R.frames) (hl : W + (maxL + 11) + rm.locals ≤ R.locals)
    {g : JFrame} (hg : g.method = m) (hsize : g.locals.size = c.maxLocals) {rest : List Value} (hlen : ∀ sig, parseMethodDescriptor y.desc = some sig → as'.length = sig.parameters.length) (hs : g.stack = as'.reverse ++ .ref (n0 + a) :: rest) (hW : 2 * g.monitorRoom + (rest.map fun v => v.category).sum ≤ W) (hd : decode c.code g.pc = .ok (.invokevirtual index, 3)) (hc : cells + kc ≤ R.cells) (hsl : slots + ks ≤ R.slots) :
    ∃ T' h' L, Stand p l e R s m args below meth c T' L (cells + kc) (slots + ks) ∧ T'.heap = h' ∧ Ow K Z h' n0 D' ∧ Fr n0 L ∧ ∀ target, Steps p.tables e below (T'.setTop { g with pc := g.pc + 3, stack := r.toList ++ rest }) target → Steps p.tables e below (T.setTop g) target := by
  subst hkc hks
  obtain ⟨cC, kC, i1, i2, -, i4, -, -⟩ := Cond.instantiable_spec (mvT (args := args) hZ w5)
  have hpr := Cond.privateMethod_at (mvP (args := args) hZ w2)
  have hsel := selects_self_of_private i1 i2 (Bool.or_eq_false_iff.mp i4).1 hpr (mvT (args := args) hZ w6) hy
  obtain ⟨cq, qa, qb⟩ := (O.exaC hck hK).cell
  obtain ⟨_, _, ⟨T', L', k', n'⟩, -, X', ⟨Lc, hQ, hL, hk, hn⟩, st⟩ := X.privateBack hx (y := y) hown (mvT hZ w1) (mvT hZ w6) hsel hpr (mvT hZ w4) hy (backOf (W := W) (hM h [] O) hZ w4 w3 hf hl) hg hsize (Steps.refl _) (by rw [eT]; exact qa) qb (argsL := as') hlen hs hW hd (fun _ _ => ⟨rfl, eT, hc, hsl⟩)
  dsimp only [Pt.U, Pt.locs, Pt.cells, Pt.slots] at X' hL hk hn st hQ
  subst hL hk hn
  obtain ⟨rfl, N', O'⟩ := hQ
  exact ⟨T', _, _, X', rfl, O', N.app N', fun target k => st.trans k⟩
theorem cloneW (X : Stand p l e R s m args below meth c T locs cells slots) (hx : p.tables.exec = Jvm.exec) (hZ : Z.Warmed39 s.vm) {own ad : String} {index : Nat} {ty : FieldType} (hown : s.vm.findClass own = some m.cls) (had : ad = "[" ++ ty.toString)
    (w1 : (Cond.methodLink own index ⟨ad, "clone", "()Ljava/lang/Object;"⟩).before a0 Z = true) (w2 : (Cond.sameMethod ad "java/lang/Object" "clone" "()Ljava/lang/Object;").before a0 Z = true) (w3 : (Cond.native ⟨"java/lang/Object", "clone", "()Ljava/lang/Object;"⟩).before a0 Z = true)
    (w4 : (Cond.instanceMethod ⟨"java/lang/Object", "clone", "()Ljava/lang/Object;"⟩).before a0 Z = true) (w5 : (Cond.selects ad ⟨ad, "clone", "()Ljava/lang/Object;"⟩ ⟨"java/lang/Object", "clone", "()Ljava/lang/Object;"⟩).before a0 Z = true) (w6 : (Cond.castable ad "java/lang/Cloneable").before a0 Z = true)
    (eT : T.heap = h) (O : Ow K Z h n0 D) (hK : (K t).1 = .array ty) {cap : Nat} (hq : cA' D a t cap = some D') {g : JFrame} (hg : g.method = m) (hsize : g.locals.size = c.maxLocals) {rest : List Value} (hs : g.stack = .ref (n0 + a) :: rest) (hd : decode c.code g.pc = .ok (.invokevirtual index, 3))
    (hf : 1 ≤ R.frames) {W : Nat} (hW : 2 * g.monitorRoom + (rest.map fun v => v.category).sum ≤ W) (hl : W + 14 ≤ R.locals) (hc : cells + 1 ≤ R.cells) (hsl : slots + cap ≤ R.slots) :
    ∃ T' h', Stand p l e R s m args below meth c T' locs (cells + 1) (slots + cap) ∧ T'.heap = h' ∧ Ow K Z h' n0 D' ∧ ∀ target, Steps p.tables e below (T'.setTop { g with pc := g.pc + 3, stack := .ref (n0 + D.length) :: rest }) target → Steps p.tables e below (T.setTop g) target := by
  obtain ⟨vs, h1, h2, rfl⟩ := cA_e hq
  obtain ⟨E, cl, A, hsl', hlen, hfit⟩ := (O.2 a t vs h1).1 ty hK
  rw [← had] at E
  obtain ⟨c2, k, e1, e2, e3, e4, e5⟩ := E
  cases A.1.symm.trans e1
  obtain ⟨c1, cC, g1, g2, g3⟩ := Cond.castable_spec w6
  cases e2.symm.trans g1
  have hal : Z.vm.Alike T.vm := hZ.alike.trans X.warmed.alike
  have hsz : cl.slots.size = vs.length := by rw [hsl', sh_len]
  have hfc : ∀ i v, cl.slots[i]? = some v → Z.fitsSlot cl.cls .none i v = true := fun i v hv => by
    obtain ⟨-, k2, hk2, comp, hkind⟩ := A.2.1
    have e : Z.slotType? cl.cls .none i = some ty := by simp [State.slotType?, hk2, hkind]
    have hv' : ∃ w ∈ vs, sh n0 w = v := by
      rw [hsl'] at hv
      have hm : v ∈ vs.map (sh n0) := by
        have := Array.mem_of_getElem? hv
        simpa using this
      exact List.mem_map.mp hm
    obtain ⟨w, hw, rfl⟩ := hv'
    have hfw : fits ty (sh n0 w) = true := by
      have := hfit w hw
      cases w <;> first | exact this | (cases ty <;> first | (cases this; done) | rfl)
    simpa [State.fitsSlot, e] using hfw
  obtain ⟨vm', X', st⟩ := X.cloneArray hx hown (mv hZ w1) (mv hZ w2) (mv hZ w3) (mv hZ w4) (mv hZ w5) (a := n0 + a) (by rw [eT]; exact A.1) A.2.1.1 A.2.2 (by rw [hZ.alike.findClass]; exact e2) (by rw [hZ.alike.findClass]; exact g2) (by rw [hZ.alike.assignable]; exact g3)
    (fun i v hv => by have q := hfc i v hv; rw [← State.fitsSlot_setVm hal] at q; exact q) hg hsize hs hd hf (by omega) hc (by omega)
    (by obtain ⟨-, k2, hk2, comp, hkind⟩ := A.2.1; rw [hZ.alike.clonesLoader]; exact Vm.clonesLoader_of_array hk2 hkind)
  subst eT
  have hs0 := O.1
  refine ⟨_, _, X'.more (Nat.le_refl _) (by omega), rfl, O.push (h' := T.heap.push _) ⟨by simp, fun a c h => ?_⟩ (by simp) ⟨fun ty' hK' => ?_, fun C hK' => by rw [hK] at hK'; cases hK'⟩, by rw [← hs0]; exact st⟩
  · rw [Array.getElem?_push_lt (Array.getElem?_eq_some_iff.mp h).1]; exact (Array.getElem?_eq_getElem _).symm.trans h
  · cases hK.symm.trans hK'
    rw [← hs0, ← had]
    exact ⟨⟨_, k, Array.getElem?_push_size, e2, e3, rfl, e5⟩, _, ⟨Array.getElem?_push_size, ⟨fun _ z => (by cases z), A.2.1.2⟩, fun z => (by cases z)⟩, hsl', hlen, hfit⟩
theorem castW (X : Stand p l e R s m args below meth c T locs cells slots) (hx : p.tables.exec = Jvm.exec) (hZ : Z.Warmed39 s.vm) {own ad : String} {index : Nat} {ty : FieldType} (hown : s.vm.findClass own = some m.cls) (w : (Cond.classLink own index ad).before a0 Z = true) (had : ad = "[" ++ ty.toString) (eT : T.heap = h) (O : Ow K Z h n0 D) {q : Nat} (hck : ck D a t = some q) (hK : (K t).1 = .array ty)
    {g : JFrame} (hg : g.method = m) {rest : List Value} (hs : g.stack = .ref (n0 + a) :: rest) (hd : decode c.code g.pc = .ok (.checkcast index, 3)) : ∃ T', Stand p l e R s m args below meth c T' locs cells slots ∧ T'.heap = h ∧ ∀ target, Steps p.tables e below (T'.setTop { g with pc := g.pc + 3 }) target → Steps p.tables e below (T.setTop g) target := by
  obtain ⟨vs, h1⟩ := ck_e hck
  obtain ⟨E, -⟩ := (O.2 a t vs h1).1 ty hK
  rw [← had] at E
  exact castY X hx hZ hown w eT (Ins.self E) hg hs hd
end OwnLaws
def Kt1 : Kt := fun k => match k with
  | 0 => ((.array .byte), [])
  | _ => (.int, [])
theorem lay1 {Z : State} {a0 : Array Value} (hw : ∀ d ∈ tables_1, d.before a0 Z = true) : Lay Kt1 Z a0 := by
  intro t C hC
  match t, hC with
  | 0, hC => cases hC
  | n + 1, hC => cases hC
theorem d1_0 : decode prog_30_method_3_code 0 = .ok (.iload_n 1, 1) := by decide +kernel
theorem d1_1 : decode prog_30_method_3_code 1 = .ok (.newarray .byte, 2) := by decide +kernel
theorem d1_3 : decode prog_30_method_3_code 3 = .ok (.astore_n 2, 1) := by decide +kernel
theorem d1_4 : decode prog_30_method_3_code 4 = .ok (.iconst 0, 1) := by decide +kernel
theorem d1_5 : decode prog_30_method_3_code 5 = .ok (.istore_n 3, 1) := by decide +kernel
theorem d1_6 : decode prog_30_method_3_code 6 = .ok (.iload_n 3, 1) := by decide +kernel
theorem d1_7 : decode prog_30_method_3_code 7 = .ok (.iload_n 1, 1) := by decide +kernel
theorem d1_8 : decode prog_30_method_3_code 8 = .ok (.if_icmp .ge 28, 3) := by decide +kernel
theorem d1_11 : decode prog_30_method_3_code 11 = .ok (.iload_n 3, 1) := by decide +kernel
theorem d1_12 : decode prog_30_method_3_code 12 = .ok (.iconst 4, 1) := by decide +kernel
theorem d1_13 : decode prog_30_method_3_code 13 = .ok (.if_icmp .ge 23, 3) := by decide +kernel
theorem d1_16 : decode prog_30_method_3_code 16 = .ok (.aload_n 2, 1) := by decide +kernel
theorem d1_17 : decode prog_30_method_3_code 17 = .ok (.iload_n 1, 1) := by decide +kernel
theorem d1_18 : decode prog_30_method_3_code 18 = .ok (.iconst 1, 1) := by decide +kernel
theorem d1_19 : decode prog_30_method_3_code 19 = .ok (.isub, 1) := by decide +kernel
theorem d1_20 : decode prog_30_method_3_code 20 = .ok (.iload_n 3, 1) := by decide +kernel
theorem d1_21 : decode prog_30_method_3_code 21 = .ok (.isub, 1) := by decide +kernel
theorem d1_22 : decode prog_30_method_3_code 22 = .ok (.iload_n 0, 1) := by decide +kernel
theorem d1_23 : decode prog_30_method_3_code 23 = .ok (.bipush 8, 2) := by decide +kernel
theorem d1_25 : decode prog_30_method_3_code 25 = .ok (.iload_n 3, 1) := by decide +kernel
theorem d1_26 : decode prog_30_method_3_code 26 = .ok (.imul, 1) := by decide +kernel
theorem d1_27 : decode prog_30_method_3_code 27 = .ok (.iushr, 1) := by decide +kernel
theorem d1_28 : decode prog_30_method_3_code 28 = .ok (.i2b, 1) := by decide +kernel
theorem d1_29 : decode prog_30_method_3_code 29 = .ok (.bastore, 1) := by decide +kernel
theorem d1_30 : decode prog_30_method_3_code 30 = .ok (.iinc 3 1, 3) := by decide +kernel
theorem d1_33 : decode prog_30_method_3_code 33 = .ok (.goto (-27), 3) := by decide +kernel
theorem d1_36 : decode prog_30_method_3_code 36 = .ok (.aload_n 2, 1) := by decide +kernel
theorem d1_37 : decode prog_30_method_3_code 37 = .ok (.areturn, 1) := by decide +kernel
theorem pn_1 : plainName "com/example/whorl/whorl/hpke/Bytes" = true := by first | (simp [plainName, overriddenIn]; done) | decide +kernel
def b1_6 : Nat → Hp → Int32 → Int32 → Nat → Int32 → Option (Nat × Hp)
  | 0, _, _, _, _, _ => none
  | fu + 1, D, i0, i1, ob2, i3 =>
  if i3 < i1 then (if i3 < (4 : Int32) then ((wV D ob2 0 ((i1 - (1 : Int32)) - i3) (.int (((i0.toUInt32 >>> (((8 : Int32) * i3) &&& 31).toUInt32).toInt32).toInt8.toInt32).toInt8.toInt32)).bind fun D4 =>
  b1_6 fu D4 i0 i1 ob2 (i3 + (1 : Int32))) else (some (ob2, D))) else (some (ob2, D))
set_option maxRecDepth 65536 in
set_option maxHeartbeats 40000000 in
theorem bt1_6 {p : Program} {l : Launch} {e : Env} {s : State} {m : MethodId} {args : Array Value} {below : List Frame} {meth : Method} {c : Code} {Z : State} {a0 : Array Value} {n0 : Nat} {D' : Hp} {r : Nat} (hw : ∀ d ∈ tables_1, d.before a0 Z = true) (hC : Cx p s m meth c Z prog_30_method_3_code 4 (some (.array .byte)) "com/example/whorl/whorl/hpke/Bytes" "i2osp") (fu : Nat) : ∀ {T0 : State} {locs : List Loc} {cells slots : Nat} {h0 : Heap} {D : Hp} {i0 : Int32} {i1 : Int32} {ob2 : Nat} {i3 : Int32}, (Stand p l e ({ frames := 0, cells := 1, slots := 8, locals := 0 } : Room) s m args below meth c T0 locs cells slots) → (T0.heap = h0) → (Ow Kt1 Z h0 n0 D) → (Fr n0 locs) → (cells ≤ 1) → (slots ≤ 8) → (b1_6 fu D i0 i1 ob2 i3 = some (r, D')) → Gl p e below s 1 8 (Qw Kt1 Z n0 (some (.ref (n0 + r))) D') (T0.setTop (mkF m 6 #[.val (.int i0), .val (.int i1), .val (.ref (n0 + ob2)), .val (.int i3)] [])) := by
  obtain ⟨hx, hZ, hby, hml, hown, hnm, hret, hlk⟩ := id hC
  have hml : c.maxLocals = 4 := hml
  induction fu with
  | zero => intro T0 locs cells slots h0 D i0 i1 ob2 i3 X0 e0 O0 N0 hcc hss hf; cases hf
  | succ fu ih =>
    intro T0 locs cells slots h0 D i0 i1 ob2 i3 X0 e0 O0 N0 hcc hss hf
    rw [b1_6] at hf
    refine Gl.on (B := T0.setTop (mkF m 8 #[.val (.int i0), .val (.int i1), .val (.ref (n0 + ob2)), .val (.int i3)] [(.int i1), (.int i3)])) (fun t k => ?_) ?_
    · show Steps p.tables e below (T0.setTop (mkF m 6 #[.val (.int i0), .val (.int i1), .val (.ref (n0 + ob2)), .val (.int i3)] [])) _
      refine XS.iloadN X0.here hx rfl (hb hby d1_6) rfl ?_
      show Steps p.tables e below (T0.setTop (mkF m 7 #[.val (.int i0), .val (.int i1), .val (.ref (n0 + ob2)), .val (.int i3)] [(.int i3)])) _
      refine XS.iloadN X0.here hx rfl (hb hby d1_7) rfl ?_
      exact k
    by_cases hc2 : i3 < i1
    · rw [if_pos hc2] at hf
      refine Gl.on (B := T0.setTop (mkF m 13 #[.val (.int i0), .val (.int i1), .val (.ref (n0 + ob2)), .val (.int i3)] [(.int (4 : Int32)), (.int i3)])) (fun t k => ?_) ?_
      · show Steps p.tables e below (T0.setTop (mkF m 8 #[.val (.int i0), .val (.int i1), .val (.ref (n0 + ob2)), .val (.int i3)] [(.int i1), (.int i3)])) _
        refine XS.icmpNo X0.here hx rfl (hb hby d1_8) rfl (tlt hc2).2.1 ?_
        show Steps p.tables e below (T0.setTop (mkF m 11 #[.val (.int i0), .val (.int i1), .val (.ref (n0 + ob2)), .val (.int i3)] [])) _
        refine XS.iloadN X0.here hx rfl (hb hby d1_11) rfl ?_
        show Steps p.tables e below (T0.setTop (mkF m 12 #[.val (.int i0), .val (.int i1), .val (.ref (n0 + ob2)), .val (.int i3)] [(.int i3)])) _
        refine XS.iconst X0.here hx rfl (hb hby d1_12) ?_
        exact k
      by_cases hc3 : i3 < (4 : Int32)
      · rw [if_pos hc3] at hf
        obtain ⟨D4, hq4, hf⟩ := own_bind hf
        obtain ⟨T4, h4, L4, X4, e4, O4, N4, st4⟩ := stBW X0 hx hZ e0 O0 N0 hq4 rfl (g := (mkF m 29 #[.val (.int i0), .val (.int i1), .val (.ref (n0 + ob2)), .val (.int i3)] [(.int (((i0.toUInt32 >>> (((8 : Int32) * i3) &&& 31).toUInt32).toInt32).toInt8.toInt32)), (.int ((i1 - (1 : Int32)) - i3)), (.ref (n0 + ob2))])) rfl rfl (hb hby d1_29)
        refine Gl.on (B := T4.setTop (mkF m 6 #[.val (.int i0), .val (.int i1), .val (.ref (n0 + ob2)), .val (.int (i3 + (1 : Int32)))] [])) (fun t k => ?_) ?_
        · show Steps p.tables e below (T0.setTop (mkF m 13 #[.val (.int i0), .val (.int i1), .val (.ref (n0 + ob2)), .val (.int i3)] [(.int (4 : Int32)), (.int i3)])) _
          refine XS.icmpNo X0.here hx rfl (hb hby d1_13) rfl (tlt hc3).2.1 ?_
          show Steps p.tables e below (T0.setTop (mkF m 16 #[.val (.int i0), .val (.int i1), .val (.ref (n0 + ob2)), .val (.int i3)] [])) _
          refine XS.aloadN X0.here hx rfl (hb hby d1_16) rfl rfl ?_
          show Steps p.tables e below (T0.setTop (mkF m 17 #[.val (.int i0), .val (.int i1), .val (.ref (n0 + ob2)), .val (.int i3)] [(.ref (n0 + ob2))])) _
          refine XS.iloadN X0.here hx rfl (hb hby d1_17) rfl ?_
          show Steps p.tables e below (T0.setTop (mkF m 18 #[.val (.int i0), .val (.int i1), .val (.ref (n0 + ob2)), .val (.int i3)] [(.int i1), (.ref (n0 + ob2))])) _
          refine XS.iconst X0.here hx rfl (hb hby d1_18) ?_
          show Steps p.tables e below (T0.setTop (mkF m 19 #[.val (.int i0), .val (.int i1), .val (.ref (n0 + ob2)), .val (.int i3)] [(.int (1 : Int32)), (.int i1), (.ref (n0 + ob2))])) _
          refine XS.isub X0.here hx rfl (hb hby d1_19) rfl ?_
          show Steps p.tables e below (T0.setTop (mkF m 20 #[.val (.int i0), .val (.int i1), .val (.ref (n0 + ob2)), .val (.int i3)] [(.int (i1 - (1 : Int32))), (.ref (n0 + ob2))])) _
          refine XS.iloadN X0.here hx rfl (hb hby d1_20) rfl ?_
          show Steps p.tables e below (T0.setTop (mkF m 21 #[.val (.int i0), .val (.int i1), .val (.ref (n0 + ob2)), .val (.int i3)] [(.int i3), (.int (i1 - (1 : Int32))), (.ref (n0 + ob2))])) _
          refine XS.isub X0.here hx rfl (hb hby d1_21) rfl ?_
          show Steps p.tables e below (T0.setTop (mkF m 22 #[.val (.int i0), .val (.int i1), .val (.ref (n0 + ob2)), .val (.int i3)] [(.int ((i1 - (1 : Int32)) - i3)), (.ref (n0 + ob2))])) _
          refine XS.iloadN X0.here hx rfl (hb hby d1_22) rfl ?_
          show Steps p.tables e below (T0.setTop (mkF m 23 #[.val (.int i0), .val (.int i1), .val (.ref (n0 + ob2)), .val (.int i3)] [(.int i0), (.int ((i1 - (1 : Int32)) - i3)), (.ref (n0 + ob2))])) _
          refine XS.bipush X0.here hx rfl (hb hby d1_23) ?_
          show Steps p.tables e below (T0.setTop (mkF m 25 #[.val (.int i0), .val (.int i1), .val (.ref (n0 + ob2)), .val (.int i3)] [(.int (8 : Int32)), (.int i0), (.int ((i1 - (1 : Int32)) - i3)), (.ref (n0 + ob2))])) _
          refine XS.iloadN X0.here hx rfl (hb hby d1_25) rfl ?_
          show Steps p.tables e below (T0.setTop (mkF m 26 #[.val (.int i0), .val (.int i1), .val (.ref (n0 + ob2)), .val (.int i3)] [(.int i3), (.int (8 : Int32)), (.int i0), (.int ((i1 - (1 : Int32)) - i3)), (.ref (n0 + ob2))])) _
          refine XS.imul X0.here hx rfl (hb hby d1_26) rfl ?_
          show Steps p.tables e below (T0.setTop (mkF m 27 #[.val (.int i0), .val (.int i1), .val (.ref (n0 + ob2)), .val (.int i3)] [(.int ((8 : Int32) * i3)), (.int i0), (.int ((i1 - (1 : Int32)) - i3)), (.ref (n0 + ob2))])) _
          refine XS.iushr X0.here hx rfl (hb hby d1_27) rfl ?_
          show Steps p.tables e below (T0.setTop (mkF m 28 #[.val (.int i0), .val (.int i1), .val (.ref (n0 + ob2)), .val (.int i3)] [(.int ((i0.toUInt32 >>> (((8 : Int32) * i3) &&& 31).toUInt32).toInt32)), (.int ((i1 - (1 : Int32)) - i3)), (.ref (n0 + ob2))])) _
          refine XS.i2b X0.here hx rfl (hb hby d1_28) rfl ?_
          show Steps p.tables e below (T0.setTop (mkF m 29 #[.val (.int i0), .val (.int i1), .val (.ref (n0 + ob2)), .val (.int i3)] [(.int (((i0.toUInt32 >>> (((8 : Int32) * i3) &&& 31).toUInt32).toInt32).toInt8.toInt32)), (.int ((i1 - (1 : Int32)) - i3)), (.ref (n0 + ob2))])) _
          refine st4 _ ?_
          show Steps p.tables e below (T4.setTop (mkF m 30 #[.val (.int i0), .val (.int i1), .val (.ref (n0 + ob2)), .val (.int i3)] [])) _
          refine XS.iinc X4.here hx rfl (hb hby d1_30) rfl (l' := #[.val (.int i0), .val (.int i1), .val (.ref (n0 + ob2)), .val (.int (i3 + (1 : Int32)))]) rfl ?_
          show Steps p.tables e below (T4.setTop (mkF m 33 #[.val (.int i0), .val (.int i1), .val (.ref (n0 + ob2)), .val (.int (i3 + (1 : Int32)))] [])) _
          refine XS.goto X4.here hx rfl (pc0 := 33) (pc' := 6) rfl (hb hby d1_33) (by decide) (by decide) ?_
          exact k
        exact ih X4 e4 O4 N4 (by omega) (by omega) hf
      · rw [if_neg hc3] at hf
        refine Gl.on (B := T0.setTop (mkF m 37 #[.val (.int i0), .val (.int i1), .val (.ref (n0 + ob2)), .val (.int i3)] [(.ref (n0 + ob2))])) (fun t k => ?_) ?_
        · show Steps p.tables e below (T0.setTop (mkF m 13 #[.val (.int i0), .val (.int i1), .val (.ref (n0 + ob2)), .val (.int i3)] [(.int (4 : Int32)), (.int i3)])) _
          refine XS.icmpYes X0.here hx rfl (pc0 := 13) (pc' := 36) rfl (hb hby d1_13) rfl (flt hc3).2.1 (by decide) (by decide) ?_
          show Steps p.tables e below (T0.setTop (mkF m 36 #[.val (.int i0), .val (.int i1), .val (.ref (n0 + ob2)), .val (.int i3)] [])) _
          refine XS.aloadN X0.here hx rfl (hb hby d1_36) rfl rfl ?_
          exact k
        obtain ⟨rfl, rfl⟩ := own_inj hf
        exact Gl.outR X0 hx hlk hret rfl (hb hby d1_37) ⟨rfl, N0, by rw [e0]; exact O0⟩ (by show _ ≤ 1; omega) (by show _ ≤ 8; omega)
    · rw [if_neg hc2] at hf
      refine Gl.on (B := T0.setTop (mkF m 37 #[.val (.int i0), .val (.int i1), .val (.ref (n0 + ob2)), .val (.int i3)] [(.ref (n0 + ob2))])) (fun t k => ?_) ?_
      · show Steps p.tables e below (T0.setTop (mkF m 8 #[.val (.int i0), .val (.int i1), .val (.ref (n0 + ob2)), .val (.int i3)] [(.int i1), (.int i3)])) _
        refine XS.icmpYes X0.here hx rfl (pc0 := 8) (pc' := 36) rfl (hb hby d1_8) rfl (flt hc2).2.1 (by decide) (by decide) ?_
        show Steps p.tables e below (T0.setTop (mkF m 36 #[.val (.int i0), .val (.int i1), .val (.ref (n0 + ob2)), .val (.int i3)] [])) _
        refine XS.aloadN X0.here hx rfl (hb hby d1_36) rfl rfl ?_
        exact k
      obtain ⟨rfl, rfl⟩ := own_inj hf
      exact Gl.outR X0 hx hlk hret rfl (hb hby d1_37) ⟨rfl, N0, by rw [e0]; exact O0⟩ (by show _ ≤ 1; omega) (by show _ ≤ 8; omega)
def f1 (D : Hp) (i0 : Int32) (i1 : Int32) : Option (Nat × Hp) :=
  own_let (D.length) fun a1 => (nA D 0 i1 8 (.int (0 : Int32))).bind fun D1 =>
  b1_6 12 D1 i0 i1 a1 (0 : Int32)
theorem ef_1 (m : MethodId) (i0 : Int32) (i1 : Int32) : entryFrame m #[(.int i0), (.int i1)] 4 = mkF m 0 #[.val (.int i0), .val (.int i1), .unset, .unset] [] := by first | (simp [entryFrame, mkF, argsToLocals, Value.category]; done) | rfl
set_option maxRecDepth 65536 in
set_option maxHeartbeats 40000000 in
theorem ct1 {l : Launch} {Z : State} {a0 : Array Value} (hw : ∀ d ∈ tables_1, d.before a0 Z = true) {n0 : Nat} {D D' : Hp} {i0 : Int32} {i1 : Int32} {r : Nat} (hf : f1 D i0 i1 = some (r, D')) :
    Ct Kt1 l Z (⟨"com/example/whorl/whorl/hpke/Bytes", "i2osp", "(II)[B"⟩ : MethodName) (.code (⟨"com/example/whorl/whorl/hpke/Bytes", "i2osp", "(II)[B"⟩ : MethodName) prog_30_method_3_code 4 (some (.array .byte))) ({ frames := 0, cells := 1, slots := 8, locals := 0 } : Room) n0 D #[(.int i0), (.int i1)] (some (.ref (n0 + r))) D' := by
  refine Ct.of (plainFor_of_name pn_1) ?_
  intro p e s m below meth c T0 h0 hC X0 e0 O0
  obtain ⟨hx, hZ, hby, hml, hown, hnm, hret, hlk⟩ := id hC
  have hml : c.maxLocals = 4 := hml
  have hown : s.vm.findClass "com/example/whorl/whorl/hpke/Bytes" = some m.cls := hown
  have hnm : meth.name = "i2osp" := hnm
  have N0 := Fr.nil n0
  refine Gl.on (fun t k => castTop (ef_1 m i0 i1) k) ?_
  rw [f1] at hf
  obtain ⟨a1, ha1, hf⟩ := own_letE hf
  obtain ⟨D1, hD1, hf⟩ := own_bind hf
  obtain ⟨T1, h1, X1, e1, O1, st1⟩ := newAW X0 hx hZ (aty := .byte) (hw _ (List.mem_of_getElem? (i := 4) rfl)) e0 O0 rfl rfl hD1 (g := (mkF m 1 #[.val (.int i0), .val (.int i1), .unset, .unset] [(.int i1)])) rfl (hb hby d1_1) rfl (by decide) (by show _ + 1 ≤ 1; omega) (by show _ + 8 ≤ 8; omega)
  rw [ha1] at st1
  refine Gl.on (B := T1.setTop (mkF m 6 #[.val (.int i0), .val (.int i1), .val (.ref (n0 + a1)), .val (.int (0 : Int32))] [])) (fun t k => ?_) ?_
  · show Steps p.tables e below (T0.setTop (mkF m 0 #[.val (.int i0), .val (.int i1), .unset, .unset] [])) _
    refine XS.iloadN X0.here hx rfl (hb hby d1_0) rfl ?_
    show Steps p.tables e below (T0.setTop (mkF m 1 #[.val (.int i0), .val (.int i1), .unset, .unset] [(.int i1)])) _
    refine st1 _ ?_
    show Steps p.tables e below (T1.setTop (mkF m 3 #[.val (.int i0), .val (.int i1), .unset, .unset] [(.ref (n0 + a1))])) _
    refine XS.astoreN X1.here hx rfl (hb hby d1_3) rfl rfl (l' := #[.val (.int i0), .val (.int i1), .val (.ref (n0 + a1)), .unset]) rfl ?_
    show Steps p.tables e below (T1.setTop (mkF m 4 #[.val (.int i0), .val (.int i1), .val (.ref (n0 + a1)), .unset] [])) _
    refine XS.iconst X1.here hx rfl (hb hby d1_4) ?_
    show Steps p.tables e below (T1.setTop (mkF m 5 #[.val (.int i0), .val (.int i1), .val (.ref (n0 + a1)), .unset] [(.int (0 : Int32))])) _
    refine XS.istoreN X1.here hx rfl (hb hby d1_5) rfl (l' := #[.val (.int i0), .val (.int i1), .val (.ref (n0 + a1)), .val (.int (0 : Int32))]) rfl ?_
    exact k
  exact bt1_6 hw hC 12 X1 e1 O1 N0 (by omega) (by omega) hf
theorem d2_0 : decode method_2_code 0 = .ok (.iload_n 3, 1) := by decide +kernel
theorem d2_1 : decode method_2_code 1 = .ok (.aload_n 2, 1) := by decide +kernel
theorem d2_2 : decode method_2_code 2 = .ok (.arraylength, 1) := by decide +kernel
theorem d2_3 : decode method_2_code 3 = .ok (.if_icmp .ge 18, 3) := by decide +kernel
theorem d2_6 : decode method_2_code 6 = .ok (.lload_n 0, 1) := by decide +kernel
theorem d2_7 : decode method_2_code 7 = .ok (.ldc2_w 7, 3) := by decide +kernel
theorem d2_10 : decode method_2_code 10 = .ok (.lmul, 1) := by decide +kernel
theorem d2_11 : decode method_2_code 11 = .ok (.aload_n 2, 1) := by decide +kernel
theorem d2_12 : decode method_2_code 12 = .ok (.iload_n 3, 1) := by decide +kernel
theorem d2_13 : decode method_2_code 13 = .ok (.baload, 1) := by decide +kernel
theorem d2_14 : decode method_2_code 14 = .ok (.sipush 255, 3) := by decide +kernel
theorem d2_17 : decode method_2_code 17 = .ok (.iand, 1) := by decide +kernel
theorem d2_18 : decode method_2_code 18 = .ok (.i2l, 1) := by decide +kernel
theorem d2_19 : decode method_2_code 19 = .ok (.ladd, 1) := by decide +kernel
theorem d2_20 : decode method_2_code 20 = .ok (.lreturn, 1) := by decide +kernel
theorem d2_21 : decode method_2_code 21 = .ok (.lload_n 0, 1) := by decide +kernel
theorem d2_22 : decode method_2_code 22 = .ok (.lreturn, 1) := by decide +kernel
theorem pn_2 : plainName "com/example/whorl/whorl/hpke/BytesI2ospPinLaw" = true := by first | (simp [plainName, overriddenIn]; done) | decide +kernel
def f2 (D : Hp) (j0 : Int64) (ob2 : Nat) (i3 : Int32) : Option (Int64 × Hp) :=
  (lA D ob2 0).bind fun x1 =>
  if i3 < x1 then ((rI D ob2 0 i3).bind fun x3 =>
  some (((j0 * (256 : Int64)) + ((x3 &&& (255 : Int32)).toInt64)), D)) else (some (j0, D))
theorem ef_2 (m : MethodId) (n0 : Nat) (j0 : Int64) (ob2 : Nat) (i3 : Int32) : entryFrame m #[(.long j0), (.ref (n0 + ob2)), (.int i3)] 4 = mkF m 0 #[.val (.long j0), .second, .val (.ref (n0 + ob2)), .val (.int i3)] [] := by first | (simp [entryFrame, mkF, argsToLocals, Value.category]; done) | rfl
set_option maxRecDepth 65536 in
set_option maxHeartbeats 40000000 in
theorem ct2 {l : Launch} {Z : State} {a0 : Array Value} (hw : ∀ d ∈ tables_1, d.before a0 Z = true) {n0 : Nat} {D D' : Hp} {j0 : Int64} {ob2 : Nat} {i3 : Int32} {r : Int64} (hf : f2 D j0 ob2 i3 = some (r, D')) :
    Ct Kt1 l Z (⟨"com/example/whorl/whorl/hpke/BytesI2ospPinLaw", "step", "(J[BI)J"⟩ : MethodName) (.code (⟨"com/example/whorl/whorl/hpke/BytesI2ospPinLaw", "step", "(J[BI)J"⟩ : MethodName) method_2_code 4 (some .long)) ({ frames := 0, cells := 0, slots := 0, locals := 0 } : Room) n0 D #[(.long j0), (.ref (n0 + ob2)), (.int i3)] (some (.long r)) D' := by
  refine Ct.of (plainFor_of_name pn_2) ?_
  intro p e s m below meth c T0 h0 hC X0 e0 O0
  obtain ⟨hx, hZ, hby, hml, hown, hnm, hret, hlk⟩ := id hC
  have hml : c.maxLocals = 4 := hml
  have hown : s.vm.findClass "com/example/whorl/whorl/hpke/BytesI2ospPinLaw" = some m.cls := hown
  have hnm : meth.name = "step" := hnm
  have N0 := Fr.nil n0
  refine Gl.on (fun t k => castTop (ef_2 m n0 j0 ob2 i3) k) ?_
  rw [f2] at hf
  obtain ⟨x1, hx1, hf⟩ := own_bind hf
  refine Gl.on (B := T0.setTop (mkF m 3 #[.val (.long j0), .second, .val (.ref (n0 + ob2)), .val (.int i3)] [(.int x1), (.int i3)])) (fun t k => ?_) ?_
  · show Steps p.tables e below (T0.setTop (mkF m 0 #[.val (.long j0), .second, .val (.ref (n0 + ob2)), .val (.int i3)] [])) _
    refine XS.iloadN X0.here hx rfl (hb hby d2_0) rfl ?_
    show Steps p.tables e below (T0.setTop (mkF m 1 #[.val (.long j0), .second, .val (.ref (n0 + ob2)), .val (.int i3)] [(.int i3)])) _
    refine XS.aloadN X0.here hx rfl (hb hby d2_1) rfl rfl ?_
    show Steps p.tables e below (T0.setTop (mkF m 2 #[.val (.long j0), .second, .val (.ref (n0 + ob2)), .val (.int i3)] [(.ref (n0 + ob2)), (.int i3)])) _
    refine lenW' X0 hx hZ e0 O0 hx1 (ty := .byte) rfl (g := (mkF m 2 #[.val (.long j0), .second, .val (.ref (n0 + ob2)), .val (.int i3)] [(.ref (n0 + ob2)), (.int i3)])) rfl rfl (hb hby d2_2) _ ?_
    exact k
  by_cases hc2 : i3 < x1
  · rw [if_pos hc2] at hf
    obtain ⟨x3, hx3, hf⟩ := own_bind hf
    refine Gl.on (B := T0.setTop (mkF m 20 #[.val (.long j0), .second, .val (.ref (n0 + ob2)), .val (.int i3)] [(.long ((j0 * (256 : Int64)) + ((x3 &&& (255 : Int32)).toInt64)))])) (fun t k => ?_) ?_
    · show Steps p.tables e below (T0.setTop (mkF m 3 #[.val (.long j0), .second, .val (.ref (n0 + ob2)), .val (.int i3)] [(.int x1), (.int i3)])) _
      refine XS.icmpNo X0.here hx rfl (hb hby d2_3) rfl (tlt hc2).2.1 ?_
      show Steps p.tables e below (T0.setTop (mkF m 6 #[.val (.long j0), .second, .val (.ref (n0 + ob2)), .val (.int i3)] [])) _
      refine XS.lloadN X0.here hx rfl (hb hby d2_6) rfl ?_
      show Steps p.tables e below (T0.setTop (mkF m 7 #[.val (.long j0), .second, .val (.ref (n0 + ob2)), .val (.int i3)] [(.long j0)])) _
      refine X0.ldc2Long hx hown (mvT hZ (hw _ (List.mem_of_getElem? (i := 9) rfl))) (g := (mkF m 7 #[.val (.long j0), .second, .val (.ref (n0 + ob2)), .val (.int i3)] [(.long j0)])) rfl (hb hby d2_7) _ ?_
      show Steps p.tables e below (T0.setTop (mkF m 10 #[.val (.long j0), .second, .val (.ref (n0 + ob2)), .val (.int i3)] [(.long (256 : Int64)), (.long j0)])) _
      refine XS.lmul X0.here hx rfl (hb hby d2_10) rfl ?_
      show Steps p.tables e below (T0.setTop (mkF m 11 #[.val (.long j0), .second, .val (.ref (n0 + ob2)), .val (.int i3)] [(.long (j0 * (256 : Int64)))])) _
      refine XS.aloadN X0.here hx rfl (hb hby d2_11) rfl rfl ?_
      show Steps p.tables e below (T0.setTop (mkF m 12 #[.val (.long j0), .second, .val (.ref (n0 + ob2)), .val (.int i3)] [(.ref (n0 + ob2)), (.long (j0 * (256 : Int64)))])) _
      refine XS.iloadN X0.here hx rfl (hb hby d2_12) rfl ?_
      show Steps p.tables e below (T0.setTop (mkF m 13 #[.val (.long j0), .second, .val (.ref (n0 + ob2)), .val (.int i3)] [(.int i3), (.ref (n0 + ob2)), (.long (j0 * (256 : Int64)))])) _
      refine ldB X0 hx hZ e0 O0 hx3 rfl (g := (mkF m 13 #[.val (.long j0), .second, .val (.ref (n0 + ob2)), .val (.int i3)] [(.int i3), (.ref (n0 + ob2)), (.long (j0 * (256 : Int64)))])) rfl rfl (hb hby d2_13) _ ?_
      show Steps p.tables e below (T0.setTop (mkF m 14 #[.val (.long j0), .second, .val (.ref (n0 + ob2)), .val (.int i3)] [(.int x3), (.long (j0 * (256 : Int64)))])) _
      refine XS.sipush X0.here hx rfl (hb hby d2_14) ?_
      show Steps p.tables e below (T0.setTop (mkF m 17 #[.val (.long j0), .second, .val (.ref (n0 + ob2)), .val (.int i3)] [(.int (255 : Int32)), (.int x3), (.long (j0 * (256 : Int64)))])) _
      refine XS.iand X0.here hx rfl (hb hby d2_17) rfl ?_
      show Steps p.tables e below (T0.setTop (mkF m 18 #[.val (.long j0), .second, .val (.ref (n0 + ob2)), .val (.int i3)] [(.int (x3 &&& (255 : Int32))), (.long (j0 * (256 : Int64)))])) _
      refine XS.i2l X0.here hx rfl (hb hby d2_18) rfl ?_
      show Steps p.tables e below (T0.setTop (mkF m 19 #[.val (.long j0), .second, .val (.ref (n0 + ob2)), .val (.int i3)] [(.long ((x3 &&& (255 : Int32)).toInt64)), (.long (j0 * (256 : Int64)))])) _
      refine XS.ladd X0.here hx rfl (hb hby d2_19) rfl ?_
      exact k
    obtain ⟨rfl, rfl⟩ := own_inj hf
    exact Gl.outJ X0 hx hlk hret (hb hby d2_20) ⟨rfl, N0, by rw [e0]; exact O0⟩ (by show _ ≤ 0; omega) (by show _ ≤ 0; omega)
  · rw [if_neg hc2] at hf
    refine Gl.on (B := T0.setTop (mkF m 22 #[.val (.long j0), .second, .val (.ref (n0 + ob2)), .val (.int i3)] [(.long j0)])) (fun t k => ?_) ?_
    · show Steps p.tables e below (T0.setTop (mkF m 3 #[.val (.long j0), .second, .val (.ref (n0 + ob2)), .val (.int i3)] [(.int x1), (.int i3)])) _
      refine XS.icmpYes X0.here hx rfl (pc0 := 3) (pc' := 21) rfl (hb hby d2_3) rfl (flt hc2).2.1 (by decide) (by decide) ?_
      show Steps p.tables e below (T0.setTop (mkF m 21 #[.val (.long j0), .second, .val (.ref (n0 + ob2)), .val (.int i3)] [])) _
      refine XS.lloadN X0.here hx rfl (hb hby d2_21) rfl ?_
      exact k
    obtain ⟨rfl, rfl⟩ := own_inj hf
    exact Gl.outJ X0 hx hlk hret (hb hby d2_22) ⟨rfl, N0, by rw [e0]; exact O0⟩ (by show _ ≤ 0; omega) (by show _ ≤ 0; omega)
theorem pd_0 : parseMethodDescriptor "(II)[B" = some ⟨[.int, .int], some (.array .byte)⟩ := by decide +kernel
theorem pd_1 : parseMethodDescriptor "(J[BI)J" = some ⟨[.long, (.array .byte), .int], some .long⟩ := by decide +kernel
theorem pn_0 : plainName "com/example/whorl/whorl/hpke/BytesI2ospPinLaw" = true := by first | (simp [plainName, overriddenIn]; done) | decide +kernel
def f0 (D : Hp) (i0 : Int32) (i1 : Int32) : Option (Int32 × Hp) :=
  own_let (i1 &&& (7 : Int32)) fun v1 =>
  (f1 D i0 v1).bind fun q2 => own_let q2.1 fun x3 => own_let q2.2 fun D2 =>
  (lA D2 x3 0).bind fun x4 =>
  if x4 = v1 then ((f2 D2 (0 : Int64) x3 (0 : Int32)).bind fun q6 => own_let q6.1 fun x7 => own_let q6.2 fun D6 =>
  (f2 D6 x7 x3 (1 : Int32)).bind fun q8 => own_let q8.1 fun x9 => own_let q8.2 fun D8 =>
  (f2 D8 x9 x3 (2 : Int32)).bind fun q10 => own_let q10.1 fun x11 => own_let q10.2 fun D10 =>
  (f2 D10 x11 x3 (3 : Int32)).bind fun q12 => own_let q12.1 fun x13 => own_let q12.2 fun D12 =>
  (f2 D12 x13 x3 (4 : Int32)).bind fun q14 => own_let q14.1 fun x15 => own_let q14.2 fun D14 =>
  (f2 D14 x15 x3 (5 : Int32)).bind fun q16 => own_let q16.1 fun x17 => own_let q16.2 fun D16 =>
  (f2 D16 x17 x3 (6 : Int32)).bind fun q18 => own_let q18.1 fun x19 => own_let q18.2 fun D18 =>
  own_let ((i0.toInt64) &&& (4294967295 : Int64)) fun v20 =>
  if v1 < (4 : Int32) then (if ((1 : Int64) <<< (((8 : Int32) * v1) &&& 0x3f).toInt64) = (0 : Int64) then none else
  own_let (v20 - v20 / ((1 : Int64) <<< (((8 : Int32) * v1) &&& 0x3f).toInt64) * ((1 : Int64) <<< (((8 : Int32) * v1) &&& 0x3f).toInt64)) fun v23 =>
  if x19 = v23 then (some ((1 : Int32), D18)) else (some ((0 : Int32), D18))) else (if x19 = v20 then (some ((1 : Int32), D18)) else (some ((0 : Int32), D18)))) else (some ((0 : Int32), D2))
theorem ef_0 (m : MethodId) (i0 : Int32) (i1 : Int32) : entryFrame m #[(.int i0), (.int i1)] maxLocals = mkF m 0 #[.val (.int i0), .val (.int i1), .unset, .unset, .unset, .unset, .unset, .unset, .unset, .unset] [] := by first | (simp [entryFrame, mkF, argsToLocals, Value.category, maxLocals]; done) | rfl
set_option maxRecDepth 65536 in
set_option maxHeartbeats 40000000 in
theorem ct0 {l : Launch} {Z : State} {a0 : Array Value} (hw : ∀ d ∈ tables_1, d.before a0 Z = true) {n0 : Nat} {D D' : Hp} {i0 : Int32} {i1 : Int32} {r : Int32} (hf : f0 D i0 i1 = some (r, D')) :
    Ct Kt1 l Z x (.code x code maxLocals ret) room_1 n0 D #[(.int i0), (.int i1)] (some (.int r)) D' := by
  refine Ct.of (plainFor_of_name pn_0) ?_
  intro p e s m below meth c T0 h0 hC X0 e0 O0
  obtain ⟨hx, hZ, hby, hml, hown, hnm, hret, hlk⟩ := id hC
  have hml : c.maxLocals = 10 := hml
  have hown : s.vm.findClass "com/example/whorl/whorl/hpke/BytesI2ospPinLaw" = some m.cls := hown
  have hnm : meth.name = "law" := hnm
  have N0 := Fr.nil n0
  refine Gl.on (fun t k => castTop (ef_0 m i0 i1) k) ?_
  rw [f0] at hf
  obtain ⟨v1, hv1, hf⟩ := own_letE hf
  obtain ⟨⟨x3, D2⟩, hq2, hf⟩ := own_bind hf
  obtain ⟨_, rfl, hf⟩ := own_letE hf
  obtain ⟨_, rfl, hf⟩ := own_letE hf
  obtain ⟨T2, h2, L2, X2, e2, O2, N2, st2⟩ := callSW X0 hx hZ (y := (⟨"com/example/whorl/whorl/hpke/Bytes", "i2osp", "(II)[B"⟩ : MethodName)) hown (hw _ (List.mem_of_getElem? (i := 0) rfl)) (hw _ (List.mem_of_getElem? (i := 1) rfl)) (hw _ (List.mem_of_getElem? (i := 2) rfl)) (hw _ (List.mem_of_getElem? (i := 3) rfl)) (by decide) e0 O0 N0 (as' := [(.int i0), (.int v1)]) (ct1 hw hq2) (W := 0) (kc := 1) (ks := 8) rfl rfl (by decide) (by decide) (g := (mkF m 7 #[.val (.int i0), .val (.int i1), .val (.int v1), .unset, .unset, .unset, .unset, .unset, .unset, .unset] [(.int v1), (.int i0)])) rfl (by rw [hml]; rfl) (rest := []) (lenOf pd_0 rfl) rfl (by show 2 * 0 + _ ≤ _; exact Nat.le_of_eq rfl) (hb hby at_7) (by show _ + 1 ≤ 16; omega) (by show _ + 8 ≤ 128; omega)
  obtain ⟨x4, hx4, hf⟩ := own_bind hf
  refine Gl.on (B := T2.setTop (mkF m 18 #[.val (.int i0), .val (.int i1), .val (.int v1), .val (.ref (n0 + x3)), .unset, .unset, .unset, .unset, .unset, .unset] [(.int v1), (.int x4)])) (fun t k => ?_) ?_
  · show Steps p.tables e below (T0.setTop (mkF m 0 #[.val (.int i0), .val (.int i1), .unset, .unset, .unset, .unset, .unset, .unset, .unset, .unset] [])) _
    refine XS.iloadN X0.here hx rfl (hb hby at_0) rfl ?_
    show Steps p.tables e below (T0.setTop (mkF m 1 #[.val (.int i0), .val (.int i1), .unset, .unset, .unset, .unset, .unset, .unset, .unset, .unset] [(.int i1)])) _
    refine XS.bipush X0.here hx rfl (hb hby at_1) ?_
    show Steps p.tables e below (T0.setTop (mkF m 3 #[.val (.int i0), .val (.int i1), .unset, .unset, .unset, .unset, .unset, .unset, .unset, .unset] [(.int (7 : Int32)), (.int i1)])) _
    refine XS.iand X0.here hx rfl (hb hby at_3) rfl ?_
    show Steps p.tables e below (T0.setTop (mkF m 4 #[.val (.int i0), .val (.int i1), .unset, .unset, .unset, .unset, .unset, .unset, .unset, .unset] [(.int (i1 &&& (7 : Int32)))])) _
    refine own_to (congrArg (fun z => T0.setTop (mkF m 4 #[.val (.int i0), .val (.int i1), .unset, .unset, .unset, .unset, .unset, .unset, .unset, .unset] [(.int z)])) hv1) ?_
    show Steps p.tables e below (T0.setTop (mkF m 4 #[.val (.int i0), .val (.int i1), .unset, .unset, .unset, .unset, .unset, .unset, .unset, .unset] [(.int v1)])) _
    refine XS.istoreN X0.here hx rfl (hb hby at_4) rfl (l' := #[.val (.int i0), .val (.int i1), .val (.int v1), .unset, .unset, .unset, .unset, .unset, .unset, .unset]) rfl ?_
    show Steps p.tables e below (T0.setTop (mkF m 5 #[.val (.int i0), .val (.int i1), .val (.int v1), .unset, .unset, .unset, .unset, .unset, .unset, .unset] [])) _
    refine XS.iloadN X0.here hx rfl (hb hby at_5) rfl ?_
    show Steps p.tables e below (T0.setTop (mkF m 6 #[.val (.int i0), .val (.int i1), .val (.int v1), .unset, .unset, .unset, .unset, .unset, .unset, .unset] [(.int i0)])) _
    refine XS.iloadN X0.here hx rfl (hb hby at_6) rfl ?_
    show Steps p.tables e below (T0.setTop (mkF m 7 #[.val (.int i0), .val (.int i1), .val (.int v1), .unset, .unset, .unset, .unset, .unset, .unset, .unset] [(.int v1), (.int i0)])) _
    refine st2 _ ?_
    show Steps p.tables e below (T2.setTop (mkF m 10 #[.val (.int i0), .val (.int i1), .val (.int v1), .unset, .unset, .unset, .unset, .unset, .unset, .unset] [(.ref (n0 + x3))])) _
    refine XS.astoreN X2.here hx rfl (hb hby at_10) rfl rfl (l' := #[.val (.int i0), .val (.int i1), .val (.int v1), .val (.ref (n0 + x3)), .unset, .unset, .unset, .unset, .unset, .unset]) rfl ?_
    show Steps p.tables e below (T2.setTop (mkF m 11 #[.val (.int i0), .val (.int i1), .val (.int v1), .val (.ref (n0 + x3)), .unset, .unset, .unset, .unset, .unset, .unset] [])) _
    refine XS.aloadN X2.here hx rfl (hb hby at_11) rfl rfl ?_
    show Steps p.tables e below (T2.setTop (mkF m 12 #[.val (.int i0), .val (.int i1), .val (.int v1), .val (.ref (n0 + x3)), .unset, .unset, .unset, .unset, .unset, .unset] [(.ref (n0 + x3))])) _
    refine XS.ifnullNo X2.here hx rfl (hb hby at_12) rfl ?_
    show Steps p.tables e below (T2.setTop (mkF m 15 #[.val (.int i0), .val (.int i1), .val (.int v1), .val (.ref (n0 + x3)), .unset, .unset, .unset, .unset, .unset, .unset] [])) _
    refine XS.aloadN X2.here hx rfl (hb hby at_15) rfl rfl ?_
    show Steps p.tables e below (T2.setTop (mkF m 16 #[.val (.int i0), .val (.int i1), .val (.int v1), .val (.ref (n0 + x3)), .unset, .unset, .unset, .unset, .unset, .unset] [(.ref (n0 + x3))])) _
    refine lenW' X2 hx hZ e2 O2 hx4 (ty := .byte) rfl (g := (mkF m 16 #[.val (.int i0), .val (.int i1), .val (.int v1), .val (.ref (n0 + x3)), .unset, .unset, .unset, .unset, .unset, .unset] [(.ref (n0 + x3))])) rfl rfl (hb hby at_16) _ ?_
    show Steps p.tables e below (T2.setTop (mkF m 17 #[.val (.int i0), .val (.int i1), .val (.int v1), .val (.ref (n0 + x3)), .unset, .unset, .unset, .unset, .unset, .unset] [(.int x4)])) _
    refine XS.iloadN X2.here hx rfl (hb hby at_17) rfl ?_
    exact k
  by_cases hc5 : x4 = v1
  · rw [if_pos hc5] at hf
    obtain ⟨⟨x7, D6⟩, hq6, hf⟩ := own_bind hf
    obtain ⟨_, rfl, hf⟩ := own_letE hf
    obtain ⟨_, rfl, hf⟩ := own_letE hf
    obtain ⟨T6, h6, L6, X6, e6, O6, N6, st6⟩ := callSW X2 hx hZ (y := (⟨"com/example/whorl/whorl/hpke/BytesI2ospPinLaw", "step", "(J[BI)J"⟩ : MethodName)) hown (hw _ (List.mem_of_getElem? (i := 5) rfl)) (hw _ (List.mem_of_getElem? (i := 6) rfl)) (hw _ (List.mem_of_getElem? (i := 7) rfl)) (hw _ (List.mem_of_getElem? (i := 8) rfl)) (by decide) e2 O2 N2 (as' := [(.long (0 : Int64)), (.ref (n0 + x3)), (.int (0 : Int32))]) (ct2 hw hq6) (W := 0) (kc := 0) (ks := 0) rfl rfl (by decide) (by decide) (g := (mkF m 30 #[.val (.int i0), .val (.int i1), .val (.int v1), .val (.ref (n0 + x3)), .val (.long (0 : Int64)), .second, .unset, .unset, .unset, .unset] [(.int (0 : Int32)), (.ref (n0 + x3)), (.long (0 : Int64))])) rfl (by rw [hml]; rfl) (rest := []) (lenOf pd_1 rfl) rfl (by show 2 * 0 + _ ≤ _; exact Nat.le_of_eq rfl) (hb hby at_30) (by show _ + 0 ≤ 16; omega) (by show _ + 0 ≤ 128; omega)
    obtain ⟨⟨x9, D8⟩, hq8, hf⟩ := own_bind hf
    obtain ⟨_, rfl, hf⟩ := own_letE hf
    obtain ⟨_, rfl, hf⟩ := own_letE hf
    obtain ⟨T8, h8, L8, X8, e8, O8, N8, st8⟩ := callSW X6 hx hZ (y := (⟨"com/example/whorl/whorl/hpke/BytesI2ospPinLaw", "step", "(J[BI)J"⟩ : MethodName)) hown (hw _ (List.mem_of_getElem? (i := 5) rfl)) (hw _ (List.mem_of_getElem? (i := 6) rfl)) (hw _ (List.mem_of_getElem? (i := 7) rfl)) (hw _ (List.mem_of_getElem? (i := 8) rfl)) (by decide) e6 O6 N6 (as' := [(.long x7), (.ref (n0 + x3)), (.int (1 : Int32))]) (ct2 hw hq8) (W := 0) (kc := 0) (ks := 0) rfl rfl (by decide) (by decide) (g := (mkF m 39 #[.val (.int i0), .val (.int i1), .val (.int v1), .val (.ref (n0 + x3)), .val (.long x7), .second, .unset, .unset, .unset, .unset] [(.int (1 : Int32)), (.ref (n0 + x3)), (.long x7)])) rfl (by rw [hml]; rfl) (rest := []) (lenOf pd_1 rfl) rfl (by show 2 * 0 + _ ≤ _; exact Nat.le_of_eq rfl) (hb hby at_39) (by show _ + 0 ≤ 16; omega) (by show _ + 0 ≤ 128; omega)
    obtain ⟨⟨x11, D10⟩, hq10, hf⟩ := own_bind hf
    obtain ⟨_, rfl, hf⟩ := own_letE hf
    obtain ⟨_, rfl, hf⟩ := own_letE hf
    obtain ⟨T10, h10, L10, X10, e10, O10, N10, st10⟩ := callSW X8 hx hZ (y := (⟨"com/example/whorl/whorl/hpke/BytesI2ospPinLaw", "step", "(J[BI)J"⟩ : MethodName)) hown (hw _ (List.mem_of_getElem? (i := 5) rfl)) (hw _ (List.mem_of_getElem? (i := 6) rfl)) (hw _ (List.mem_of_getElem? (i := 7) rfl)) (hw _ (List.mem_of_getElem? (i := 8) rfl)) (by decide) e8 O8 N8 (as' := [(.long x9), (.ref (n0 + x3)), (.int (2 : Int32))]) (ct2 hw hq10) (W := 0) (kc := 0) (ks := 0) rfl rfl (by decide) (by decide) (g := (mkF m 48 #[.val (.int i0), .val (.int i1), .val (.int v1), .val (.ref (n0 + x3)), .val (.long x9), .second, .unset, .unset, .unset, .unset] [(.int (2 : Int32)), (.ref (n0 + x3)), (.long x9)])) rfl (by rw [hml]; rfl) (rest := []) (lenOf pd_1 rfl) rfl (by show 2 * 0 + _ ≤ _; exact Nat.le_of_eq rfl) (hb hby at_48) (by show _ + 0 ≤ 16; omega) (by show _ + 0 ≤ 128; omega)
    obtain ⟨⟨x13, D12⟩, hq12, hf⟩ := own_bind hf
    obtain ⟨_, rfl, hf⟩ := own_letE hf
    obtain ⟨_, rfl, hf⟩ := own_letE hf
    obtain ⟨T12, h12, L12, X12, e12, O12, N12, st12⟩ := callSW X10 hx hZ (y := (⟨"com/example/whorl/whorl/hpke/BytesI2ospPinLaw", "step", "(J[BI)J"⟩ : MethodName)) hown (hw _ (List.mem_of_getElem? (i := 5) rfl)) (hw _ (List.mem_of_getElem? (i := 6) rfl)) (hw _ (List.mem_of_getElem? (i := 7) rfl)) (hw _ (List.mem_of_getElem? (i := 8) rfl)) (by decide) e10 O10 N10 (as' := [(.long x11), (.ref (n0 + x3)), (.int (3 : Int32))]) (ct2 hw hq12) (W := 0) (kc := 0) (ks := 0) rfl rfl (by decide) (by decide) (g := (mkF m 57 #[.val (.int i0), .val (.int i1), .val (.int v1), .val (.ref (n0 + x3)), .val (.long x11), .second, .unset, .unset, .unset, .unset] [(.int (3 : Int32)), (.ref (n0 + x3)), (.long x11)])) rfl (by rw [hml]; rfl) (rest := []) (lenOf pd_1 rfl) rfl (by show 2 * 0 + _ ≤ _; exact Nat.le_of_eq rfl) (hb hby at_57) (by show _ + 0 ≤ 16; omega) (by show _ + 0 ≤ 128; omega)
    obtain ⟨⟨x15, D14⟩, hq14, hf⟩ := own_bind hf
    obtain ⟨_, rfl, hf⟩ := own_letE hf
    obtain ⟨_, rfl, hf⟩ := own_letE hf
    obtain ⟨T14, h14, L14, X14, e14, O14, N14, st14⟩ := callSW X12 hx hZ (y := (⟨"com/example/whorl/whorl/hpke/BytesI2ospPinLaw", "step", "(J[BI)J"⟩ : MethodName)) hown (hw _ (List.mem_of_getElem? (i := 5) rfl)) (hw _ (List.mem_of_getElem? (i := 6) rfl)) (hw _ (List.mem_of_getElem? (i := 7) rfl)) (hw _ (List.mem_of_getElem? (i := 8) rfl)) (by decide) e12 O12 N12 (as' := [(.long x13), (.ref (n0 + x3)), (.int (4 : Int32))]) (ct2 hw hq14) (W := 0) (kc := 0) (ks := 0) rfl rfl (by decide) (by decide) (g := (mkF m 66 #[.val (.int i0), .val (.int i1), .val (.int v1), .val (.ref (n0 + x3)), .val (.long x13), .second, .unset, .unset, .unset, .unset] [(.int (4 : Int32)), (.ref (n0 + x3)), (.long x13)])) rfl (by rw [hml]; rfl) (rest := []) (lenOf pd_1 rfl) rfl (by show 2 * 0 + _ ≤ _; exact Nat.le_of_eq rfl) (hb hby at_66) (by show _ + 0 ≤ 16; omega) (by show _ + 0 ≤ 128; omega)
    obtain ⟨⟨x17, D16⟩, hq16, hf⟩ := own_bind hf
    obtain ⟨_, rfl, hf⟩ := own_letE hf
    obtain ⟨_, rfl, hf⟩ := own_letE hf
    obtain ⟨T16, h16, L16, X16, e16, O16, N16, st16⟩ := callSW X14 hx hZ (y := (⟨"com/example/whorl/whorl/hpke/BytesI2ospPinLaw", "step", "(J[BI)J"⟩ : MethodName)) hown (hw _ (List.mem_of_getElem? (i := 5) rfl)) (hw _ (List.mem_of_getElem? (i := 6) rfl)) (hw _ (List.mem_of_getElem? (i := 7) rfl)) (hw _ (List.mem_of_getElem? (i := 8) rfl)) (by decide) e14 O14 N14 (as' := [(.long x15), (.ref (n0 + x3)), (.int (5 : Int32))]) (ct2 hw hq16) (W := 0) (kc := 0) (ks := 0) rfl rfl (by decide) (by decide) (g := (mkF m 75 #[.val (.int i0), .val (.int i1), .val (.int v1), .val (.ref (n0 + x3)), .val (.long x15), .second, .unset, .unset, .unset, .unset] [(.int (5 : Int32)), (.ref (n0 + x3)), (.long x15)])) rfl (by rw [hml]; rfl) (rest := []) (lenOf pd_1 rfl) rfl (by show 2 * 0 + _ ≤ _; exact Nat.le_of_eq rfl) (hb hby at_75) (by show _ + 0 ≤ 16; omega) (by show _ + 0 ≤ 128; omega)
    obtain ⟨⟨x19, D18⟩, hq18, hf⟩ := own_bind hf
    obtain ⟨_, rfl, hf⟩ := own_letE hf
    obtain ⟨_, rfl, hf⟩ := own_letE hf
    obtain ⟨T18, h18, L18, X18, e18, O18, N18, st18⟩ := callSW X16 hx hZ (y := (⟨"com/example/whorl/whorl/hpke/BytesI2ospPinLaw", "step", "(J[BI)J"⟩ : MethodName)) hown (hw _ (List.mem_of_getElem? (i := 5) rfl)) (hw _ (List.mem_of_getElem? (i := 6) rfl)) (hw _ (List.mem_of_getElem? (i := 7) rfl)) (hw _ (List.mem_of_getElem? (i := 8) rfl)) (by decide) e16 O16 N16 (as' := [(.long x17), (.ref (n0 + x3)), (.int (6 : Int32))]) (ct2 hw hq18) (W := 0) (kc := 0) (ks := 0) rfl rfl (by decide) (by decide) (g := (mkF m 85 #[.val (.int i0), .val (.int i1), .val (.int v1), .val (.ref (n0 + x3)), .val (.long x17), .second, .unset, .unset, .unset, .unset] [(.int (6 : Int32)), (.ref (n0 + x3)), (.long x17)])) rfl (by rw [hml]; rfl) (rest := []) (lenOf pd_1 rfl) rfl (by show 2 * 0 + _ ≤ _; exact Nat.le_of_eq rfl) (hb hby at_85) (by show _ + 0 ≤ 16; omega) (by show _ + 0 ≤ 128; omega)
    obtain ⟨v20, hv20, hf⟩ := own_letE hf
    refine Gl.on (B := T18.setTop (mkF m 100 #[.val (.int i0), .val (.int i1), .val (.int v1), .val (.ref (n0 + x3)), .val (.long x19), .second, .val (.long v20), .second, .unset, .unset] [(.int (4 : Int32)), (.int v1)])) (fun t k => ?_) ?_
    · show Steps p.tables e below (T2.setTop (mkF m 18 #[.val (.int i0), .val (.int i1), .val (.int v1), .val (.ref (n0 + x3)), .unset, .unset, .unset, .unset, .unset, .unset] [(.int v1), (.int x4)])) _
      refine XS.icmpYes X2.here hx rfl (pc0 := 18) (pc' := 23) rfl (hb hby at_18) rfl (teq hc5).1 (by decide) (by decide) ?_
      show Steps p.tables e below (T2.setTop (mkF m 23 #[.val (.int i0), .val (.int i1), .val (.int v1), .val (.ref (n0 + x3)), .unset, .unset, .unset, .unset, .unset, .unset] [])) _
      refine XS.lconst X2.here hx rfl (hb hby at_23) ?_
      show Steps p.tables e below (T2.setTop (mkF m 24 #[.val (.int i0), .val (.int i1), .val (.int v1), .val (.ref (n0 + x3)), .unset, .unset, .unset, .unset, .unset, .unset] [(.long (0 : Int64))])) _
      refine XS.lstore X2.here hx rfl (hb hby at_24) rfl (l' := #[.val (.int i0), .val (.int i1), .val (.int v1), .val (.ref (n0 + x3)), .val (.long (0 : Int64)), .second, .unset, .unset, .unset, .unset]) rfl ?_
      show Steps p.tables e below (T2.setTop (mkF m 26 #[.val (.int i0), .val (.int i1), .val (.int v1), .val (.ref (n0 + x3)), .val (.long (0 : Int64)), .second, .unset, .unset, .unset, .unset] [])) _
      refine XS.lload X2.here hx rfl (hb hby at_26) rfl ?_
      show Steps p.tables e below (T2.setTop (mkF m 28 #[.val (.int i0), .val (.int i1), .val (.int v1), .val (.ref (n0 + x3)), .val (.long (0 : Int64)), .second, .unset, .unset, .unset, .unset] [(.long (0 : Int64))])) _
      refine XS.aloadN X2.here hx rfl (hb hby at_28) rfl rfl ?_
      show Steps p.tables e below (T2.setTop (mkF m 29 #[.val (.int i0), .val (.int i1), .val (.int v1), .val (.ref (n0 + x3)), .val (.long (0 : Int64)), .second, .unset, .unset, .unset, .unset] [(.ref (n0 + x3)), (.long (0 : Int64))])) _
      refine XS.iconst X2.here hx rfl (hb hby at_29) ?_
      show Steps p.tables e below (T2.setTop (mkF m 30 #[.val (.int i0), .val (.int i1), .val (.int v1), .val (.ref (n0 + x3)), .val (.long (0 : Int64)), .second, .unset, .unset, .unset, .unset] [(.int (0 : Int32)), (.ref (n0 + x3)), (.long (0 : Int64))])) _
      refine st6 _ ?_
      show Steps p.tables e below (T6.setTop (mkF m 33 #[.val (.int i0), .val (.int i1), .val (.int v1), .val (.ref (n0 + x3)), .val (.long (0 : Int64)), .second, .unset, .unset, .unset, .unset] [(.long x7)])) _
      refine XS.lstore X6.here hx rfl (hb hby at_33) rfl (l' := #[.val (.int i0), .val (.int i1), .val (.int v1), .val (.ref (n0 + x3)), .val (.long x7), .second, .unset, .unset, .unset, .unset]) rfl ?_
      show Steps p.tables e below (T6.setTop (mkF m 35 #[.val (.int i0), .val (.int i1), .val (.int v1), .val (.ref (n0 + x3)), .val (.long x7), .second, .unset, .unset, .unset, .unset] [])) _
      refine XS.lload X6.here hx rfl (hb hby at_35) rfl ?_
      show Steps p.tables e below (T6.setTop (mkF m 37 #[.val (.int i0), .val (.int i1), .val (.int v1), .val (.ref (n0 + x3)), .val (.long x7), .second, .unset, .unset, .unset, .unset] [(.long x7)])) _
      refine XS.aloadN X6.here hx rfl (hb hby at_37) rfl rfl ?_
      show Steps p.tables e below (T6.setTop (mkF m 38 #[.val (.int i0), .val (.int i1), .val (.int v1), .val (.ref (n0 + x3)), .val (.long x7), .second, .unset, .unset, .unset, .unset] [(.ref (n0 + x3)), (.long x7)])) _
      refine XS.iconst X6.here hx rfl (hb hby at_38) ?_
      show Steps p.tables e below (T6.setTop (mkF m 39 #[.val (.int i0), .val (.int i1), .val (.int v1), .val (.ref (n0 + x3)), .val (.long x7), .second, .unset, .unset, .unset, .unset] [(.int (1 : Int32)), (.ref (n0 + x3)), (.long x7)])) _
      refine st8 _ ?_
      show Steps p.tables e below (T8.setTop (mkF m 42 #[.val (.int i0), .val (.int i1), .val (.int v1), .val (.ref (n0 + x3)), .val (.long x7), .second, .unset, .unset, .unset, .unset] [(.long x9)])) _
      refine XS.lstore X8.here hx rfl (hb hby at_42) rfl (l' := #[.val (.int i0), .val (.int i1), .val (.int v1), .val (.ref (n0 + x3)), .val (.long x9), .second, .unset, .unset, .unset, .unset]) rfl ?_
      show Steps p.tables e below (T8.setTop (mkF m 44 #[.val (.int i0), .val (.int i1), .val (.int v1), .val (.ref (n0 + x3)), .val (.long x9), .second, .unset, .unset, .unset, .unset] [])) _
      refine XS.lload X8.here hx rfl (hb hby at_44) rfl ?_
      show Steps p.tables e below (T8.setTop (mkF m 46 #[.val (.int i0), .val (.int i1), .val (.int v1), .val (.ref (n0 + x3)), .val (.long x9), .second, .unset, .unset, .unset, .unset] [(.long x9)])) _
      refine XS.aloadN X8.here hx rfl (hb hby at_46) rfl rfl ?_
      show Steps p.tables e below (T8.setTop (mkF m 47 #[.val (.int i0), .val (.int i1), .val (.int v1), .val (.ref (n0 + x3)), .val (.long x9), .second, .unset, .unset, .unset, .unset] [(.ref (n0 + x3)), (.long x9)])) _
      refine XS.iconst X8.here hx rfl (hb hby at_47) ?_
      show Steps p.tables e below (T8.setTop (mkF m 48 #[.val (.int i0), .val (.int i1), .val (.int v1), .val (.ref (n0 + x3)), .val (.long x9), .second, .unset, .unset, .unset, .unset] [(.int (2 : Int32)), (.ref (n0 + x3)), (.long x9)])) _
      refine st10 _ ?_
      show Steps p.tables e below (T10.setTop (mkF m 51 #[.val (.int i0), .val (.int i1), .val (.int v1), .val (.ref (n0 + x3)), .val (.long x9), .second, .unset, .unset, .unset, .unset] [(.long x11)])) _
      refine XS.lstore X10.here hx rfl (hb hby at_51) rfl (l' := #[.val (.int i0), .val (.int i1), .val (.int v1), .val (.ref (n0 + x3)), .val (.long x11), .second, .unset, .unset, .unset, .unset]) rfl ?_
      show Steps p.tables e below (T10.setTop (mkF m 53 #[.val (.int i0), .val (.int i1), .val (.int v1), .val (.ref (n0 + x3)), .val (.long x11), .second, .unset, .unset, .unset, .unset] [])) _
      refine XS.lload X10.here hx rfl (hb hby at_53) rfl ?_
      show Steps p.tables e below (T10.setTop (mkF m 55 #[.val (.int i0), .val (.int i1), .val (.int v1), .val (.ref (n0 + x3)), .val (.long x11), .second, .unset, .unset, .unset, .unset] [(.long x11)])) _
      refine XS.aloadN X10.here hx rfl (hb hby at_55) rfl rfl ?_
      show Steps p.tables e below (T10.setTop (mkF m 56 #[.val (.int i0), .val (.int i1), .val (.int v1), .val (.ref (n0 + x3)), .val (.long x11), .second, .unset, .unset, .unset, .unset] [(.ref (n0 + x3)), (.long x11)])) _
      refine XS.iconst X10.here hx rfl (hb hby at_56) ?_
      show Steps p.tables e below (T10.setTop (mkF m 57 #[.val (.int i0), .val (.int i1), .val (.int v1), .val (.ref (n0 + x3)), .val (.long x11), .second, .unset, .unset, .unset, .unset] [(.int (3 : Int32)), (.ref (n0 + x3)), (.long x11)])) _
      refine st12 _ ?_
      show Steps p.tables e below (T12.setTop (mkF m 60 #[.val (.int i0), .val (.int i1), .val (.int v1), .val (.ref (n0 + x3)), .val (.long x11), .second, .unset, .unset, .unset, .unset] [(.long x13)])) _
      refine XS.lstore X12.here hx rfl (hb hby at_60) rfl (l' := #[.val (.int i0), .val (.int i1), .val (.int v1), .val (.ref (n0 + x3)), .val (.long x13), .second, .unset, .unset, .unset, .unset]) rfl ?_
      show Steps p.tables e below (T12.setTop (mkF m 62 #[.val (.int i0), .val (.int i1), .val (.int v1), .val (.ref (n0 + x3)), .val (.long x13), .second, .unset, .unset, .unset, .unset] [])) _
      refine XS.lload X12.here hx rfl (hb hby at_62) rfl ?_
      show Steps p.tables e below (T12.setTop (mkF m 64 #[.val (.int i0), .val (.int i1), .val (.int v1), .val (.ref (n0 + x3)), .val (.long x13), .second, .unset, .unset, .unset, .unset] [(.long x13)])) _
      refine XS.aloadN X12.here hx rfl (hb hby at_64) rfl rfl ?_
      show Steps p.tables e below (T12.setTop (mkF m 65 #[.val (.int i0), .val (.int i1), .val (.int v1), .val (.ref (n0 + x3)), .val (.long x13), .second, .unset, .unset, .unset, .unset] [(.ref (n0 + x3)), (.long x13)])) _
      refine XS.iconst X12.here hx rfl (hb hby at_65) ?_
      show Steps p.tables e below (T12.setTop (mkF m 66 #[.val (.int i0), .val (.int i1), .val (.int v1), .val (.ref (n0 + x3)), .val (.long x13), .second, .unset, .unset, .unset, .unset] [(.int (4 : Int32)), (.ref (n0 + x3)), (.long x13)])) _
      refine st14 _ ?_
      show Steps p.tables e below (T14.setTop (mkF m 69 #[.val (.int i0), .val (.int i1), .val (.int v1), .val (.ref (n0 + x3)), .val (.long x13), .second, .unset, .unset, .unset, .unset] [(.long x15)])) _
      refine XS.lstore X14.here hx rfl (hb hby at_69) rfl (l' := #[.val (.int i0), .val (.int i1), .val (.int v1), .val (.ref (n0 + x3)), .val (.long x15), .second, .unset, .unset, .unset, .unset]) rfl ?_
      show Steps p.tables e below (T14.setTop (mkF m 71 #[.val (.int i0), .val (.int i1), .val (.int v1), .val (.ref (n0 + x3)), .val (.long x15), .second, .unset, .unset, .unset, .unset] [])) _
      refine XS.lload X14.here hx rfl (hb hby at_71) rfl ?_
      show Steps p.tables e below (T14.setTop (mkF m 73 #[.val (.int i0), .val (.int i1), .val (.int v1), .val (.ref (n0 + x3)), .val (.long x15), .second, .unset, .unset, .unset, .unset] [(.long x15)])) _
      refine XS.aloadN X14.here hx rfl (hb hby at_73) rfl rfl ?_
      show Steps p.tables e below (T14.setTop (mkF m 74 #[.val (.int i0), .val (.int i1), .val (.int v1), .val (.ref (n0 + x3)), .val (.long x15), .second, .unset, .unset, .unset, .unset] [(.ref (n0 + x3)), (.long x15)])) _
      refine XS.iconst X14.here hx rfl (hb hby at_74) ?_
      show Steps p.tables e below (T14.setTop (mkF m 75 #[.val (.int i0), .val (.int i1), .val (.int v1), .val (.ref (n0 + x3)), .val (.long x15), .second, .unset, .unset, .unset, .unset] [(.int (5 : Int32)), (.ref (n0 + x3)), (.long x15)])) _
      refine st16 _ ?_
      show Steps p.tables e below (T16.setTop (mkF m 78 #[.val (.int i0), .val (.int i1), .val (.int v1), .val (.ref (n0 + x3)), .val (.long x15), .second, .unset, .unset, .unset, .unset] [(.long x17)])) _
      refine XS.lstore X16.here hx rfl (hb hby at_78) rfl (l' := #[.val (.int i0), .val (.int i1), .val (.int v1), .val (.ref (n0 + x3)), .val (.long x17), .second, .unset, .unset, .unset, .unset]) rfl ?_
      show Steps p.tables e below (T16.setTop (mkF m 80 #[.val (.int i0), .val (.int i1), .val (.int v1), .val (.ref (n0 + x3)), .val (.long x17), .second, .unset, .unset, .unset, .unset] [])) _
      refine XS.lload X16.here hx rfl (hb hby at_80) rfl ?_
      show Steps p.tables e below (T16.setTop (mkF m 82 #[.val (.int i0), .val (.int i1), .val (.int v1), .val (.ref (n0 + x3)), .val (.long x17), .second, .unset, .unset, .unset, .unset] [(.long x17)])) _
      refine XS.aloadN X16.here hx rfl (hb hby at_82) rfl rfl ?_
      show Steps p.tables e below (T16.setTop (mkF m 83 #[.val (.int i0), .val (.int i1), .val (.int v1), .val (.ref (n0 + x3)), .val (.long x17), .second, .unset, .unset, .unset, .unset] [(.ref (n0 + x3)), (.long x17)])) _
      refine XS.bipush X16.here hx rfl (hb hby at_83) ?_
      show Steps p.tables e below (T16.setTop (mkF m 85 #[.val (.int i0), .val (.int i1), .val (.int v1), .val (.ref (n0 + x3)), .val (.long x17), .second, .unset, .unset, .unset, .unset] [(.int (6 : Int32)), (.ref (n0 + x3)), (.long x17)])) _
      refine st18 _ ?_
      show Steps p.tables e below (T18.setTop (mkF m 88 #[.val (.int i0), .val (.int i1), .val (.int v1), .val (.ref (n0 + x3)), .val (.long x17), .second, .unset, .unset, .unset, .unset] [(.long x19)])) _
      refine XS.lstore X18.here hx rfl (hb hby at_88) rfl (l' := #[.val (.int i0), .val (.int i1), .val (.int v1), .val (.ref (n0 + x3)), .val (.long x19), .second, .unset, .unset, .unset, .unset]) rfl ?_
      show Steps p.tables e below (T18.setTop (mkF m 90 #[.val (.int i0), .val (.int i1), .val (.int v1), .val (.ref (n0 + x3)), .val (.long x19), .second, .unset, .unset, .unset, .unset] [])) _
      refine XS.iloadN X18.here hx rfl (hb hby at_90) rfl ?_
      show Steps p.tables e below (T18.setTop (mkF m 91 #[.val (.int i0), .val (.int i1), .val (.int v1), .val (.ref (n0 + x3)), .val (.long x19), .second, .unset, .unset, .unset, .unset] [(.int i0)])) _
      refine XS.i2l X18.here hx rfl (hb hby at_91) rfl ?_
      show Steps p.tables e below (T18.setTop (mkF m 92 #[.val (.int i0), .val (.int i1), .val (.int v1), .val (.ref (n0 + x3)), .val (.long x19), .second, .unset, .unset, .unset, .unset] [(.long (i0.toInt64))])) _
      refine X18.ldc2Long hx hown (mvT hZ (hw _ (List.mem_of_getElem? (i := 10) rfl))) (g := (mkF m 92 #[.val (.int i0), .val (.int i1), .val (.int v1), .val (.ref (n0 + x3)), .val (.long x19), .second, .unset, .unset, .unset, .unset] [(.long (i0.toInt64))])) rfl (hb hby at_92) _ ?_
      show Steps p.tables e below (T18.setTop (mkF m 95 #[.val (.int i0), .val (.int i1), .val (.int v1), .val (.ref (n0 + x3)), .val (.long x19), .second, .unset, .unset, .unset, .unset] [(.long (4294967295 : Int64)), (.long (i0.toInt64))])) _
      refine XS.land X18.here hx rfl (hb hby at_95) rfl ?_
      show Steps p.tables e below (T18.setTop (mkF m 96 #[.val (.int i0), .val (.int i1), .val (.int v1), .val (.ref (n0 + x3)), .val (.long x19), .second, .unset, .unset, .unset, .unset] [(.long ((i0.toInt64) &&& (4294967295 : Int64)))])) _
      refine own_to (congrArg (fun z => T18.setTop (mkF m 96 #[.val (.int i0), .val (.int i1), .val (.int v1), .val (.ref (n0 + x3)), .val (.long x19), .second, .unset, .unset, .unset, .unset] [(.long z)])) hv20) ?_
      show Steps p.tables e below (T18.setTop (mkF m 96 #[.val (.int i0), .val (.int i1), .val (.int v1), .val (.ref (n0 + x3)), .val (.long x19), .second, .unset, .unset, .unset, .unset] [(.long v20)])) _
      refine XS.lstore X18.here hx rfl (hb hby at_96) rfl (l' := #[.val (.int i0), .val (.int i1), .val (.int v1), .val (.ref (n0 + x3)), .val (.long x19), .second, .val (.long v20), .second, .unset, .unset]) rfl ?_
      show Steps p.tables e below (T18.setTop (mkF m 98 #[.val (.int i0), .val (.int i1), .val (.int v1), .val (.ref (n0 + x3)), .val (.long x19), .second, .val (.long v20), .second, .unset, .unset] [])) _
      refine XS.iloadN X18.here hx rfl (hb hby at_98) rfl ?_
      show Steps p.tables e below (T18.setTop (mkF m 99 #[.val (.int i0), .val (.int i1), .val (.int v1), .val (.ref (n0 + x3)), .val (.long x19), .second, .val (.long v20), .second, .unset, .unset] [(.int v1)])) _
      refine XS.iconst X18.here hx rfl (hb hby at_99) ?_
      exact k
    by_cases hc21 : v1 < (4 : Int32)
    · rw [if_pos hc21] at hf
      refine Gl.on (B := T18.setTop (mkF m 118 #[.val (.int i0), .val (.int i1), .val (.int v1), .val (.ref (n0 + x3)), .val (.long x19), .second, .val (.long v20), .second, .unset, .unset] [(.long ((1 : Int64) <<< (((8 : Int32) * v1) &&& 0x3f).toInt64)), (.long v20)])) (fun t k => ?_) ?_
      · show Steps p.tables e below (T18.setTop (mkF m 100 #[.val (.int i0), .val (.int i1), .val (.int v1), .val (.ref (n0 + x3)), .val (.long x19), .second, .val (.long v20), .second, .unset, .unset] [(.int (4 : Int32)), (.int v1)])) _
        refine XS.icmpYes X18.here hx rfl (pc0 := 100) (pc' := 110) rfl (hb hby at_100) rfl (tlt hc21).1 (by decide) (by decide) ?_
        show Steps p.tables e below (T18.setTop (mkF m 110 #[.val (.int i0), .val (.int i1), .val (.int v1), .val (.ref (n0 + x3)), .val (.long x19), .second, .val (.long v20), .second, .unset, .unset] [])) _
        refine XS.lload X18.here hx rfl (hb hby at_110) rfl ?_
        show Steps p.tables e below (T18.setTop (mkF m 112 #[.val (.int i0), .val (.int i1), .val (.int v1), .val (.ref (n0 + x3)), .val (.long x19), .second, .val (.long v20), .second, .unset, .unset] [(.long v20)])) _
        refine XS.lconst X18.here hx rfl (hb hby at_112) ?_
        show Steps p.tables e below (T18.setTop (mkF m 113 #[.val (.int i0), .val (.int i1), .val (.int v1), .val (.ref (n0 + x3)), .val (.long x19), .second, .val (.long v20), .second, .unset, .unset] [(.long (1 : Int64)), (.long v20)])) _
        refine XS.bipush X18.here hx rfl (hb hby at_113) ?_
        show Steps p.tables e below (T18.setTop (mkF m 115 #[.val (.int i0), .val (.int i1), .val (.int v1), .val (.ref (n0 + x3)), .val (.long x19), .second, .val (.long v20), .second, .unset, .unset] [(.int (8 : Int32)), (.long (1 : Int64)), (.long v20)])) _
        refine XS.iloadN X18.here hx rfl (hb hby at_115) rfl ?_
        show Steps p.tables e below (T18.setTop (mkF m 116 #[.val (.int i0), .val (.int i1), .val (.int v1), .val (.ref (n0 + x3)), .val (.long x19), .second, .val (.long v20), .second, .unset, .unset] [(.int v1), (.int (8 : Int32)), (.long (1 : Int64)), (.long v20)])) _
        refine XS.imul X18.here hx rfl (hb hby at_116) rfl ?_
        show Steps p.tables e below (T18.setTop (mkF m 117 #[.val (.int i0), .val (.int i1), .val (.int v1), .val (.ref (n0 + x3)), .val (.long x19), .second, .val (.long v20), .second, .unset, .unset] [(.int ((8 : Int32) * v1)), (.long (1 : Int64)), (.long v20)])) _
        refine XS.lshl X18.here hx rfl (hb hby at_117) rfl ?_
        exact k
      by_cases hz22 : ((1 : Int64) <<< (((8 : Int32) * v1) &&& 0x3f).toInt64) = (0 : Int64)
      · rw [if_pos hz22] at hf; cases hf
      rw [if_neg hz22] at hf
      obtain ⟨v23, hv23, hf⟩ := own_letE hf
      refine Gl.on (B := T18.setTop (mkF m 126 #[.val (.int i0), .val (.int i1), .val (.int v1), .val (.ref (n0 + x3)), .val (.long x19), .second, .val (.long v20), .second, .val (.long v23), .second] [(.int (lcmpW x19 v23))])) (fun t k => ?_) ?_
      · show Steps p.tables e below (T18.setTop (mkF m 118 #[.val (.int i0), .val (.int i1), .val (.int v1), .val (.ref (n0 + x3)), .val (.long x19), .second, .val (.long v20), .second, .unset, .unset] [(.long ((1 : Int64) <<< (((8 : Int32) * v1) &&& 0x3f).toInt64)), (.long v20)])) _
        refine XS.lrem X18.here hx rfl (hb hby at_118) rfl hz22 ?_
        show Steps p.tables e below (T18.setTop (mkF m 119 #[.val (.int i0), .val (.int i1), .val (.int v1), .val (.ref (n0 + x3)), .val (.long x19), .second, .val (.long v20), .second, .unset, .unset] [(.long (v20 - v20 / ((1 : Int64) <<< (((8 : Int32) * v1) &&& 0x3f).toInt64) * ((1 : Int64) <<< (((8 : Int32) * v1) &&& 0x3f).toInt64)))])) _
        refine own_to (congrArg (fun z => T18.setTop (mkF m 119 #[.val (.int i0), .val (.int i1), .val (.int v1), .val (.ref (n0 + x3)), .val (.long x19), .second, .val (.long v20), .second, .unset, .unset] [(.long z)])) hv23) ?_
        show Steps p.tables e below (T18.setTop (mkF m 119 #[.val (.int i0), .val (.int i1), .val (.int v1), .val (.ref (n0 + x3)), .val (.long x19), .second, .val (.long v20), .second, .unset, .unset] [(.long v23)])) _
        refine XS.lstore X18.here hx rfl (hb hby at_119) rfl (l' := #[.val (.int i0), .val (.int i1), .val (.int v1), .val (.ref (n0 + x3)), .val (.long x19), .second, .val (.long v20), .second, .val (.long v23), .second]) rfl ?_
        show Steps p.tables e below (T18.setTop (mkF m 121 #[.val (.int i0), .val (.int i1), .val (.int v1), .val (.ref (n0 + x3)), .val (.long x19), .second, .val (.long v20), .second, .val (.long v23), .second] [])) _
        refine XS.lload X18.here hx rfl (hb hby at_121) rfl ?_
        show Steps p.tables e below (T18.setTop (mkF m 123 #[.val (.int i0), .val (.int i1), .val (.int v1), .val (.ref (n0 + x3)), .val (.long x19), .second, .val (.long v20), .second, .val (.long v23), .second] [(.long x19)])) _
        refine XS.lload X18.here hx rfl (hb hby at_123) rfl ?_
        show Steps p.tables e below (T18.setTop (mkF m 125 #[.val (.int i0), .val (.int i1), .val (.int v1), .val (.ref (n0 + x3)), .val (.long x19), .second, .val (.long v20), .second, .val (.long v23), .second] [(.long v23), (.long x19)])) _
        refine XS.lcmp X18.here hx rfl (hb hby at_125) rfl ?_
        exact k
      by_cases hc24 : x19 = v23
      · rw [if_pos hc24] at hf
        refine Gl.on (B := T18.setTop (mkF m 134 #[.val (.int i0), .val (.int i1), .val (.int v1), .val (.ref (n0 + x3)), .val (.long x19), .second, .val (.long v20), .second, .val (.long v23), .second] [(.int (1 : Int32))])) (fun t k => ?_) ?_
        · show Steps p.tables e below (T18.setTop (mkF m 126 #[.val (.int i0), .val (.int i1), .val (.int v1), .val (.ref (n0 + x3)), .val (.long x19), .second, .val (.long v20), .second, .val (.long v23), .second] [(.int (lcmpW x19 v23))])) _
          refine XS.ifNo X18.here hx rfl (hb hby at_126) rfl ((if0 _ _).trans (teq ((lw_eq _ _).mpr hc24)).2) ?_
          show Steps p.tables e below (T18.setTop (mkF m 129 #[.val (.int i0), .val (.int i1), .val (.int v1), .val (.ref (n0 + x3)), .val (.long x19), .second, .val (.long v20), .second, .val (.long v23), .second] [])) _
          refine XS.iconst X18.here hx rfl (hb hby at_129) ?_
          show Steps p.tables e below (T18.setTop (mkF m 130 #[.val (.int i0), .val (.int i1), .val (.int v1), .val (.ref (n0 + x3)), .val (.long x19), .second, .val (.long v20), .second, .val (.long v23), .second] [(.int (1 : Int32))])) _
          refine XS.goto X18.here hx rfl (pc0 := 130) (pc' := 134) rfl (hb hby at_130) (by decide) (by decide) ?_
          exact k
        obtain ⟨rfl, rfl⟩ := own_inj hf
        exact Gl.outN X18 hx hlk (t := .boolean) hret (by simp) (hb hby at_134) ⟨rfl, N18, by rw [e18]; exact O18⟩ (by show _ ≤ 16; omega) (by show _ ≤ 128; omega)
      · rw [if_neg hc24] at hf
        refine Gl.on (B := T18.setTop (mkF m 134 #[.val (.int i0), .val (.int i1), .val (.int v1), .val (.ref (n0 + x3)), .val (.long x19), .second, .val (.long v20), .second, .val (.long v23), .second] [(.int (0 : Int32))])) (fun t k => ?_) ?_
        · show Steps p.tables e below (T18.setTop (mkF m 126 #[.val (.int i0), .val (.int i1), .val (.int v1), .val (.ref (n0 + x3)), .val (.long x19), .second, .val (.long v20), .second, .val (.long v23), .second] [(.int (lcmpW x19 v23))])) _
          refine XS.ifYes X18.here hx rfl (pc0 := 126) (pc' := 133) rfl (hb hby at_126) rfl ((if0 _ _).trans (feq (mt (lw_eq _ _).mp hc24)).2) (by decide) (by decide) ?_
          show Steps p.tables e below (T18.setTop (mkF m 133 #[.val (.int i0), .val (.int i1), .val (.int v1), .val (.ref (n0 + x3)), .val (.long x19), .second, .val (.long v20), .second, .val (.long v23), .second] [])) _
          refine XS.iconst X18.here hx rfl (hb hby at_133) ?_
          exact k
        obtain ⟨rfl, rfl⟩ := own_inj hf
        exact Gl.outN X18 hx hlk (t := .boolean) hret (by simp) (hb hby at_134) ⟨rfl, N18, by rw [e18]; exact O18⟩ (by show _ ≤ 16; omega) (by show _ ≤ 128; omega)
    · rw [if_neg hc21] at hf
      refine Gl.on (B := T18.setTop (mkF m 126 #[.val (.int i0), .val (.int i1), .val (.int v1), .val (.ref (n0 + x3)), .val (.long x19), .second, .val (.long v20), .second, .val (.long v20), .second] [(.int (lcmpW x19 v20))])) (fun t k => ?_) ?_
      · show Steps p.tables e below (T18.setTop (mkF m 100 #[.val (.int i0), .val (.int i1), .val (.int v1), .val (.ref (n0 + x3)), .val (.long x19), .second, .val (.long v20), .second, .unset, .unset] [(.int (4 : Int32)), (.int v1)])) _
        refine XS.icmpNo X18.here hx rfl (hb hby at_100) rfl (flt hc21).1 ?_
        show Steps p.tables e below (T18.setTop (mkF m 103 #[.val (.int i0), .val (.int i1), .val (.int v1), .val (.ref (n0 + x3)), .val (.long x19), .second, .val (.long v20), .second, .unset, .unset] [])) _
        refine XS.lload X18.here hx rfl (hb hby at_103) rfl ?_
        show Steps p.tables e below (T18.setTop (mkF m 105 #[.val (.int i0), .val (.int i1), .val (.int v1), .val (.ref (n0 + x3)), .val (.long x19), .second, .val (.long v20), .second, .unset, .unset] [(.long v20)])) _
        refine XS.lstore X18.here hx rfl (hb hby at_105) rfl (l' := #[.val (.int i0), .val (.int i1), .val (.int v1), .val (.ref (n0 + x3)), .val (.long x19), .second, .val (.long v20), .second, .val (.long v20), .second]) rfl ?_
        show Steps p.tables e below (T18.setTop (mkF m 107 #[.val (.int i0), .val (.int i1), .val (.int v1), .val (.ref (n0 + x3)), .val (.long x19), .second, .val (.long v20), .second, .val (.long v20), .second] [])) _
        refine XS.goto X18.here hx rfl (pc0 := 107) (pc' := 121) rfl (hb hby at_107) (by decide) (by decide) ?_
        show Steps p.tables e below (T18.setTop (mkF m 121 #[.val (.int i0), .val (.int i1), .val (.int v1), .val (.ref (n0 + x3)), .val (.long x19), .second, .val (.long v20), .second, .val (.long v20), .second] [])) _
        refine XS.lload X18.here hx rfl (hb hby at_121) rfl ?_
        show Steps p.tables e below (T18.setTop (mkF m 123 #[.val (.int i0), .val (.int i1), .val (.int v1), .val (.ref (n0 + x3)), .val (.long x19), .second, .val (.long v20), .second, .val (.long v20), .second] [(.long x19)])) _
        refine XS.lload X18.here hx rfl (hb hby at_123) rfl ?_
        show Steps p.tables e below (T18.setTop (mkF m 125 #[.val (.int i0), .val (.int i1), .val (.int v1), .val (.ref (n0 + x3)), .val (.long x19), .second, .val (.long v20), .second, .val (.long v20), .second] [(.long v20), (.long x19)])) _
        refine XS.lcmp X18.here hx rfl (hb hby at_125) rfl ?_
        exact k
      by_cases hc25 : x19 = v20
      · rw [if_pos hc25] at hf
        refine Gl.on (B := T18.setTop (mkF m 134 #[.val (.int i0), .val (.int i1), .val (.int v1), .val (.ref (n0 + x3)), .val (.long x19), .second, .val (.long v20), .second, .val (.long v20), .second] [(.int (1 : Int32))])) (fun t k => ?_) ?_
        · show Steps p.tables e below (T18.setTop (mkF m 126 #[.val (.int i0), .val (.int i1), .val (.int v1), .val (.ref (n0 + x3)), .val (.long x19), .second, .val (.long v20), .second, .val (.long v20), .second] [(.int (lcmpW x19 v20))])) _
          refine XS.ifNo X18.here hx rfl (hb hby at_126) rfl ((if0 _ _).trans (teq ((lw_eq _ _).mpr hc25)).2) ?_
          show Steps p.tables e below (T18.setTop (mkF m 129 #[.val (.int i0), .val (.int i1), .val (.int v1), .val (.ref (n0 + x3)), .val (.long x19), .second, .val (.long v20), .second, .val (.long v20), .second] [])) _
          refine XS.iconst X18.here hx rfl (hb hby at_129) ?_
          show Steps p.tables e below (T18.setTop (mkF m 130 #[.val (.int i0), .val (.int i1), .val (.int v1), .val (.ref (n0 + x3)), .val (.long x19), .second, .val (.long v20), .second, .val (.long v20), .second] [(.int (1 : Int32))])) _
          refine XS.goto X18.here hx rfl (pc0 := 130) (pc' := 134) rfl (hb hby at_130) (by decide) (by decide) ?_
          exact k
        obtain ⟨rfl, rfl⟩ := own_inj hf
        exact Gl.outN X18 hx hlk (t := .boolean) hret (by simp) (hb hby at_134) ⟨rfl, N18, by rw [e18]; exact O18⟩ (by show _ ≤ 16; omega) (by show _ ≤ 128; omega)
      · rw [if_neg hc25] at hf
        refine Gl.on (B := T18.setTop (mkF m 134 #[.val (.int i0), .val (.int i1), .val (.int v1), .val (.ref (n0 + x3)), .val (.long x19), .second, .val (.long v20), .second, .val (.long v20), .second] [(.int (0 : Int32))])) (fun t k => ?_) ?_
        · show Steps p.tables e below (T18.setTop (mkF m 126 #[.val (.int i0), .val (.int i1), .val (.int v1), .val (.ref (n0 + x3)), .val (.long x19), .second, .val (.long v20), .second, .val (.long v20), .second] [(.int (lcmpW x19 v20))])) _
          refine XS.ifYes X18.here hx rfl (pc0 := 126) (pc' := 133) rfl (hb hby at_126) rfl ((if0 _ _).trans (feq (mt (lw_eq _ _).mp hc25)).2) (by decide) (by decide) ?_
          show Steps p.tables e below (T18.setTop (mkF m 133 #[.val (.int i0), .val (.int i1), .val (.int v1), .val (.ref (n0 + x3)), .val (.long x19), .second, .val (.long v20), .second, .val (.long v20), .second] [])) _
          refine XS.iconst X18.here hx rfl (hb hby at_133) ?_
          exact k
        obtain ⟨rfl, rfl⟩ := own_inj hf
        exact Gl.outN X18 hx hlk (t := .boolean) hret (by simp) (hb hby at_134) ⟨rfl, N18, by rw [e18]; exact O18⟩ (by show _ ≤ 16; omega) (by show _ ≤ 128; omega)
  · rw [if_neg hc5] at hf
    refine Gl.on (B := T2.setTop (mkF m 22 #[.val (.int i0), .val (.int i1), .val (.int v1), .val (.ref (n0 + x3)), .unset, .unset, .unset, .unset, .unset, .unset] [(.int (0 : Int32))])) (fun t k => ?_) ?_
    · show Steps p.tables e below (T2.setTop (mkF m 18 #[.val (.int i0), .val (.int i1), .val (.int v1), .val (.ref (n0 + x3)), .unset, .unset, .unset, .unset, .unset, .unset] [(.int v1), (.int x4)])) _
      refine XS.icmpNo X2.here hx rfl (hb hby at_18) rfl (feq hc5).1 ?_
      show Steps p.tables e below (T2.setTop (mkF m 21 #[.val (.int i0), .val (.int i1), .val (.int v1), .val (.ref (n0 + x3)), .unset, .unset, .unset, .unset, .unset, .unset] [])) _
      refine XS.iconst X2.here hx rfl (hb hby at_21) ?_
      exact k
    obtain ⟨rfl, rfl⟩ := own_inj hf
    exact Gl.outN X2 hx hlk (t := .boolean) hret (by simp) (hb hby at_22) ⟨rfl, N2, by rw [e2]; exact O2⟩ (by show _ ≤ 16; omega) (by show _ ≤ 128; omega)
theorem own_fin (x : Int32) (n : Nat) (h0 : 0 ≤ x.toInt) (h1 : x.toInt < n) : ∃ p : Fin n, x = p.1.toInt32 :=
  ⟨⟨x.toNatClampNeg, by simp only [Int32.toNatClampNeg]; omega⟩, (back32 (by rw [Int32.lt_iff_toInt_lt]; have : (0 : Int32).toInt = 0 := rfl; omega)).1.symm⟩
theorem own_modr (x n : Int32) (hn : 0 < n.toInt) : 0 ≤ ((x &&& (2147483647 : Int32)) % n).toInt ∧ ((x &&& (2147483647 : Int32)) % n).toInt < n.toInt := by
  have e1 := c_and x (2147483647 : Int32) (by decide)
  have e2 := (c_irem (x &&& (2147483647 : Int32)) n n.toInt rfl).1 e1.1
  rw [e2]
  exact ⟨Int.emod_nonneg _ (by omega), Int.emod_lt_of_pos _ hn⟩
theorem own_mm (x n : Int32) (hn : 0 < n.toInt) : ((((x &&& (2147483647 : Int32)) % n) &&& (2147483647 : Int32)) % n) = ((x &&& (2147483647 : Int32)) % n) := by
  obtain ⟨h1, h2⟩ := own_modr x n hn
  have e0 : ((2 ^ 31 : Nat) : Int) = 2147483648 := by decide
  have u := Int32.toInt_lt ((x &&& (2147483647 : Int32)) % n)
  have e1 : (((x &&& (2147483647 : Int32)) % n) &&& (2147483647 : Int32)).toInt = ((x &&& (2147483647 : Int32)) % n).toInt := by
    rw [c_mask _ 2147483647 31 (by decide) (by decide), e0]; omega
  have e2 : (((x &&& (2147483647 : Int32)) % n) &&& (2147483647 : Int32)) = ((x &&& (2147483647 : Int32)) % n) := Int32.toInt_inj.mp e1
  rw [e2]
  apply Int32.toInt_inj.mp
  rw [(c_irem _ n n.toInt rfl).1 h1]
  exact Int.emod_eq_of_lt h1 h2
theorem own_ex {α : Type} {o : Option (Int32 × α)} (h : o.map Prod.fst = some (1 : Int32)) : ∃ D', o = some ((1 : Int32), D') := by
  cases o with
  | none => cases h
  | some q => obtain ⟨x, D⟩ := q; exact ⟨D, by cases h; rfl⟩
def own_by (i0 i3 : Int32) : Int32 := (((i0.toUInt32 >>> (((8 : Int32) * i3) &&& 31).toUInt32).toInt32).toInt8.toInt32).toInt8.toInt32
theorem own_b16 (fu : Nat) (D : Hp) (i0 i1 : Int32) (ob2 : Nat) (i3 : Int32) : b1_6 (fu + 1) D i0 i1 ob2 i3 = if i3 < i1 then (if i3 < (4 : Int32) then ((wV D ob2 0 ((i1 - (1 : Int32)) - i3) (.int (own_by i0 i3))).bind fun D4 => b1_6 fu D4 i0 i1 ob2 (i3 + (1 : Int32))) else (some (ob2, D))) else (some (ob2, D)) := rfl
theorem own_f1e (D : Hp) (i0 i1 : Int32) : f1 D i0 i1 = (nA D 0 i1 8 (.int (0 : Int32))).bind (fun D1 => b1_6 12 D1 i0 i1 D.length (0 : Int32)) := rfl
theorem own_byk (i0 q : Int32) (k : Nat) (hk : ((8 : Int32) * q).toBitVec.toNat % 32 = k) (h0 : 0 < k) (h3 : k = 8 ∨ k = 16 ∨ k = 24) : (own_by i0 q &&& (255 : Int32)).toInt = (i0.toInt % 4294967296) / (2 ^ k : Nat) % 256 := by
  have e1 := c_iushr i0 ((8 : Int32) * q) k hk h0
  have e2 := c_i2b ((i0.toUInt32 >>> (((8 : Int32) * q) &&& 31).toUInt32).toInt32)
  have e3 := c_i2b (((i0.toUInt32 >>> (((8 : Int32) * q) &&& 31).toUInt32).toInt32).toInt8.toInt32)
  rw [c_mask _ 255 8 (by decide) (by decide)]
  unfold own_by
  rw [e1] at e2
  rcases h3 with rfl | rfl | rfl <;> omega
theorem own_by1 (i0 : Int32) : (own_by i0 1 &&& (255 : Int32)).toInt = (i0.toInt % 4294967296) / 256 % 256 := own_byk i0 1 8 (by decide) (by decide) (by omega)
theorem own_by2 (i0 : Int32) : (own_by i0 2 &&& (255 : Int32)).toInt = (i0.toInt % 4294967296) / 65536 % 256 := own_byk i0 2 16 (by decide) (by decide) (by omega)
theorem own_by3 (i0 : Int32) : (own_by i0 3 &&& (255 : Int32)).toInt = (i0.toInt % 4294967296) / 16777216 % 256 := own_byk i0 3 24 (by decide) (by decide) (by omega)
theorem own_by0 (i0 : Int32) : (own_by i0 (0 : Int32) &&& (255 : Int32)).toInt = (i0.toInt % 4294967296) % 256 := by
  have e0 : (i0.toUInt32 >>> (((8 : Int32) * (0 : Int32)) &&& 31).toUInt32).toInt32 = i0 := by
    have : (((8 : Int32) * (0 : Int32)) &&& 31).toUInt32 = 0 := by decide
    rw [this]; simp
  have e2 := c_i2b i0
  have e3 := c_i2b (i0.toInt8.toInt32)
  rw [c_mask _ 255 8 (by decide) (by decide)]
  unfold own_by
  rw [e0]
  omega
theorem own_f2 (bs : List Int32) (hl : bs.length ≤ 7) (j : Int64) (i : Nat) (hi : i ≤ 6) (h0 : 0 ≤ j.toInt) (h1 : j.toInt < 281474976710656) : ∃ x : Int64, f2 [(0, bs.map Value.int)] j 0 i.toInt32 = some (x, [(0, bs.map Value.int)]) ∧ x.toInt = (if i < bs.length then j.toInt * 256 + (bs.getD i 0 &&& (255 : Int32)).toInt else j.toInt) := by
  have t1 : i.toInt32.toInt = i := len_toInt (by omega)
  have t2 : bs.length.toInt32.toInt = bs.length := len_toInt (by omega)
  have k0 : (0 : Int32).toInt = 0 := by decide
  have k256 : (256 : Int64).toInt = 256 := by decide
  by_cases q : i < bs.length
  · have c1 : i.toInt32 < bs.length.toInt32 := by rw [Int32.lt_iff_toInt_lt, t1, t2]; omega
    have c2 : ¬ i.toInt32 < 0 := by rw [Int32.lt_iff_toInt_lt, t1, k0]; omega
    have c3 : i.toInt32.toNatClampNeg = i := by simp only [Int32.toNatClampNeg, t1]; omega
    have g : bs.getD i 0 = bs[i] := by rw [List.getD_eq_getElem?_getD, List.getElem?_eq_getElem q]; rfl
    have m := c_mask bs[i] 255 8 (by decide) (by decide)
    have e1 : (j * (256 : Int64)).toInt = j.toInt * 256 := by rw [XT.mul64 (by rw [k256]; constructor <;> omega), k256]
    have e2 : ((j * (256 : Int64)) + ((bs[i] &&& (255 : Int32)).toInt64)).toInt = j.toInt * 256 + (bs[i] &&& (255 : Int32)).toInt := by rw [XT.add64 (by rw [e1, c_i2l]; constructor <;> omega), e1, c_i2l]
    refine ⟨(j * (256 : Int64)) + ((bs[i] &&& (255 : Int32)).toInt64), ?_, by rw [if_pos q, e2, g]⟩
    have r1 : rI [(0, bs.map Value.int)] 0 0 i.toInt32 = some bs[i] := by simp [rI, rV, c2, c3, asI, q]
    have r2 : lA [(0, bs.map Value.int)] 0 0 = some bs.length.toInt32 := by simp [lA]
    unfold f2
    rw [r2, Option.bind_some, if_pos c1, r1, Option.bind_some]
  · have c1 : ¬ i.toInt32 < bs.length.toInt32 := by rw [Int32.lt_iff_toInt_lt, t1, t2]; omega
    have r2 : lA [(0, bs.map Value.int)] 0 0 = some bs.length.toInt32 := by simp [lA]
    refine ⟨j, ?_, by rw [if_neg q]⟩
    unfold f2
    rw [r2, Option.bind_some, if_neg c1]
theorem own_v (i0 : Int32) : (i0.toInt64 &&& (4294967295 : Int64)).toInt = i0.toInt % 4294967296 := by
  rw [c_maskL _ 4294967295 32 (by decide) (by decide), c_i2l]; rfl
theorem own_g0 (i0 : Int32) : f1 [] i0 (0 : Int32) = some (0, [(0, ([] : List Int32).map Value.int)]) := by
  have n0 : nA [] 0 (0 : Int32) 8 (.int (0 : Int32)) = some [(0, [])] := rfl
  rw [own_f1e, n0, Option.bind_some, List.length_nil, own_b16, if_neg (by decide)]
  simp only [List.map_cons, List.map_nil]
theorem own_p0 (i0 i1 : Int32) (hv : i1 &&& (7 : Int32) = (0 : Int32)) : ∃ D', f0 [] i0 i1 = some ((1 : Int32), D') := by
  have w := own_v i0
  have b0 := own_by0 i0
  have b1 := own_by1 i0
  have b2 := own_by2 i0
  have b3 := own_by3 i0
  have k0 : (0 : Int64).toInt = 0 := by decide
  have z0 : ((0 : Int32) &&& (255 : Int32)).toInt = 0 := by decide
  obtain ⟨x0, e0, t0⟩ := own_f2 [] (by simp) (0 : Int64) 0 (by decide) (by omega) (by omega)
  have t0' : x0.toInt = (0 : Int64).toInt := t0
  rw [k0] at t0'
  clear t0
  obtain ⟨x1, e1, t1⟩ := own_f2 [] (by simp) x0 1 (by decide) (by omega) (by omega)
  have t1' : x1.toInt = x0.toInt := t1
  clear t1
  obtain ⟨x2, e2, t2⟩ := own_f2 [] (by simp) x1 2 (by decide) (by omega) (by omega)
  have t2' : x2.toInt = x1.toInt := t2
  clear t2
  obtain ⟨x3, e3, t3⟩ := own_f2 [] (by simp) x2 3 (by decide) (by omega) (by omega)
  have t3' : x3.toInt = x2.toInt := t3
  clear t3
  obtain ⟨x4, e4, t4⟩ := own_f2 [] (by simp) x3 4 (by decide) (by omega) (by omega)
  have t4' : x4.toInt = x3.toInt := t4
  clear t4
  obtain ⟨x5, e5, t5⟩ := own_f2 [] (by simp) x4 5 (by decide) (by omega) (by omega)
  have t5' : x5.toInt = x4.toInt := t5
  clear t5
  obtain ⟨x6, e6, t6⟩ := own_f2 [] (by simp) x5 6 (by decide) (by omega) (by omega)
  have t6' : x6.toInt = x5.toInt := t6
  clear t6
  have l1 : lA [(0, ([] : List Int32).map Value.int)] 0 0 = some (0 : Int32) := by rfl
  have e0' : f2 [(0, ([] : List Int32).map Value.int)] (0 : Int64) 0 (0 : Int32) = some (x0, [(0, ([] : List Int32).map Value.int)]) := e0
  have e1' : f2 [(0, ([] : List Int32).map Value.int)] x0 0 (1 : Int32) = some (x1, [(0, ([] : List Int32).map Value.int)]) := e1
  have e2' : f2 [(0, ([] : List Int32).map Value.int)] x1 0 (2 : Int32) = some (x2, [(0, ([] : List Int32).map Value.int)]) := e2
  have e3' : f2 [(0, ([] : List Int32).map Value.int)] x2 0 (3 : Int32) = some (x3, [(0, ([] : List Int32).map Value.int)]) := e3
  have e4' : f2 [(0, ([] : List Int32).map Value.int)] x3 0 (4 : Int32) = some (x4, [(0, ([] : List Int32).map Value.int)]) := e4
  have e5' : f2 [(0, ([] : List Int32).map Value.int)] x4 0 (5 : Int32) = some (x5, [(0, ([] : List Int32).map Value.int)]) := e5
  have e6' : f2 [(0, ([] : List Int32).map Value.int)] x5 0 (6 : Int32) = some (x6, [(0, ([] : List Int32).map Value.int)]) := e6
  have v1 : 0 ≤ i0.toInt % 4294967296 := by omega
  have v2 : i0.toInt % 4294967296 < 4294967296 := by omega
  apply own_ex
  simp only [f0, own_let, hv]
  rw [own_g0, Option.bind_some, l1, Option.bind_some, if_pos rfl, e0', Option.bind_some, e1', Option.bind_some, e2', Option.bind_some, e3', Option.bind_some, e4', Option.bind_some, e5', Option.bind_some, e6', Option.bind_some]
  have s1 : ((1 : Int64) <<< (((8 : Int32) * (0 : Int32)) &&& 0x3f).toInt64) = (1 : Int64) := by decide
  have s2 := (c_lrem (i0.toInt64 &&& (4294967295 : Int64)) (1 : Int64) 1 (by decide)).1 (by rw [w]; omega)
  dsimp only
  rw [if_pos (by decide), s1, if_neg (by decide), if_pos (Int64.toInt_inj.mp (by rw [s2, w]; clear s2 w b0 b1 b2 b3 e0 e1 e2 e3 e4 e5 e6; generalize i0.toInt % 4294967296 = V at *; omega))]
  simp only [Option.map_some]
theorem own_g1 (i0 : Int32) : f1 [] i0 (1 : Int32) = some (0, [(0, ([own_by i0 0] : List Int32).map Value.int)]) := by
  have n0 : nA [] 0 (1 : Int32) 8 (.int (0 : Int32)) = some [(0, [(.int (0 : Int32))])] := rfl
  have w0 : wV [(0, [(.int (0 : Int32))])] 0 0 (((1 : Int32) - (1 : Int32)) - (0 : Int32)) (.int (own_by i0 0)) = some [(0, [(.int (own_by i0 0))])] := by
    generalize own_by i0 0 = v
    rfl
  have s0 : (0 : Int32) + (1 : Int32) = (1 : Int32) := rfl
  rw [own_f1e, n0, Option.bind_some, List.length_nil, own_b16, if_pos (by decide), if_pos (by decide), w0, Option.bind_some, s0, own_b16, if_neg (by decide)]
  simp only [List.map_cons, List.map_nil]
theorem own_p1 (i0 i1 : Int32) (hv : i1 &&& (7 : Int32) = (1 : Int32)) : ∃ D', f0 [] i0 i1 = some ((1 : Int32), D') := by
  have w := own_v i0
  have b0 := own_by0 i0
  have b1 := own_by1 i0
  have b2 := own_by2 i0
  have b3 := own_by3 i0
  have k0 : (0 : Int64).toInt = 0 := by decide
  have z0 : ((0 : Int32) &&& (255 : Int32)).toInt = 0 := by decide
  obtain ⟨x0, e0, t0⟩ := own_f2 [own_by i0 0] (by simp) (0 : Int64) 0 (by decide) (by omega) (by omega)
  have t0' : x0.toInt = (0 : Int64).toInt * 256 + (own_by i0 0 &&& (255 : Int32)).toInt := t0
  rw [b0] at t0'
  rw [k0] at t0'
  clear t0
  obtain ⟨x1, e1, t1⟩ := own_f2 [own_by i0 0] (by simp) x0 1 (by decide) (by omega) (by omega)
  have t1' : x1.toInt = x0.toInt := t1
  clear t1
  obtain ⟨x2, e2, t2⟩ := own_f2 [own_by i0 0] (by simp) x1 2 (by decide) (by omega) (by omega)
  have t2' : x2.toInt = x1.toInt := t2
  clear t2
  obtain ⟨x3, e3, t3⟩ := own_f2 [own_by i0 0] (by simp) x2 3 (by decide) (by omega) (by omega)
  have t3' : x3.toInt = x2.toInt := t3
  clear t3
  obtain ⟨x4, e4, t4⟩ := own_f2 [own_by i0 0] (by simp) x3 4 (by decide) (by omega) (by omega)
  have t4' : x4.toInt = x3.toInt := t4
  clear t4
  obtain ⟨x5, e5, t5⟩ := own_f2 [own_by i0 0] (by simp) x4 5 (by decide) (by omega) (by omega)
  have t5' : x5.toInt = x4.toInt := t5
  clear t5
  obtain ⟨x6, e6, t6⟩ := own_f2 [own_by i0 0] (by simp) x5 6 (by decide) (by omega) (by omega)
  have t6' : x6.toInt = x5.toInt := t6
  clear t6
  have l1 : lA [(0, ([own_by i0 0] : List Int32).map Value.int)] 0 0 = some (1 : Int32) := by rfl
  have e0' : f2 [(0, ([own_by i0 0] : List Int32).map Value.int)] (0 : Int64) 0 (0 : Int32) = some (x0, [(0, ([own_by i0 0] : List Int32).map Value.int)]) := e0
  have e1' : f2 [(0, ([own_by i0 0] : List Int32).map Value.int)] x0 0 (1 : Int32) = some (x1, [(0, ([own_by i0 0] : List Int32).map Value.int)]) := e1
  have e2' : f2 [(0, ([own_by i0 0] : List Int32).map Value.int)] x1 0 (2 : Int32) = some (x2, [(0, ([own_by i0 0] : List Int32).map Value.int)]) := e2
  have e3' : f2 [(0, ([own_by i0 0] : List Int32).map Value.int)] x2 0 (3 : Int32) = some (x3, [(0, ([own_by i0 0] : List Int32).map Value.int)]) := e3
  have e4' : f2 [(0, ([own_by i0 0] : List Int32).map Value.int)] x3 0 (4 : Int32) = some (x4, [(0, ([own_by i0 0] : List Int32).map Value.int)]) := e4
  have e5' : f2 [(0, ([own_by i0 0] : List Int32).map Value.int)] x4 0 (5 : Int32) = some (x5, [(0, ([own_by i0 0] : List Int32).map Value.int)]) := e5
  have e6' : f2 [(0, ([own_by i0 0] : List Int32).map Value.int)] x5 0 (6 : Int32) = some (x6, [(0, ([own_by i0 0] : List Int32).map Value.int)]) := e6
  have v1 : 0 ≤ i0.toInt % 4294967296 := by omega
  have v2 : i0.toInt % 4294967296 < 4294967296 := by omega
  apply own_ex
  simp only [f0, own_let, hv]
  rw [own_g1, Option.bind_some, l1, Option.bind_some, if_pos rfl, e0', Option.bind_some, e1', Option.bind_some, e2', Option.bind_some, e3', Option.bind_some, e4', Option.bind_some, e5', Option.bind_some, e6', Option.bind_some]
  have s1 : ((1 : Int64) <<< (((8 : Int32) * (1 : Int32)) &&& 0x3f).toInt64) = (256 : Int64) := by decide
  have s2 := (c_lrem (i0.toInt64 &&& (4294967295 : Int64)) (256 : Int64) 256 (by decide)).1 (by rw [w]; omega)
  dsimp only
  rw [if_pos (by decide), s1, if_neg (by decide), if_pos (Int64.toInt_inj.mp (by rw [s2, w]; clear s2 w b0 b1 b2 b3 e0 e1 e2 e3 e4 e5 e6; generalize i0.toInt % 4294967296 = V at *; omega))]
  simp only [Option.map_some]
theorem own_g2 (i0 : Int32) : f1 [] i0 (2 : Int32) = some (0, [(0, ([own_by i0 1, own_by i0 0] : List Int32).map Value.int)]) := by
  have n0 : nA [] 0 (2 : Int32) 8 (.int (0 : Int32)) = some [(0, [(.int (0 : Int32)), (.int (0 : Int32))])] := rfl
  have w0 : wV [(0, [(.int (0 : Int32)), (.int (0 : Int32))])] 0 0 (((2 : Int32) - (1 : Int32)) - (0 : Int32)) (.int (own_by i0 0)) = some [(0, [(.int (0 : Int32)), (.int (own_by i0 0))])] := by
    generalize own_by i0 0 = v
    rfl
  have s0 : (0 : Int32) + (1 : Int32) = (1 : Int32) := rfl
  have w1 : wV [(0, [(.int (0 : Int32)), (.int (own_by i0 0))])] 0 0 (((2 : Int32) - (1 : Int32)) - (1 : Int32)) (.int (own_by i0 1)) = some [(0, [(.int (own_by i0 1)), (.int (own_by i0 0))])] := by
    generalize own_by i0 1 = v
    rfl
  have s1 : (1 : Int32) + (1 : Int32) = (2 : Int32) := rfl
  rw [own_f1e, n0, Option.bind_some, List.length_nil, own_b16, if_pos (by decide), if_pos (by decide), w0, Option.bind_some, s0, own_b16, if_pos (by decide), if_pos (by decide), w1, Option.bind_some, s1, own_b16, if_neg (by decide)]
  simp only [List.map_cons, List.map_nil]
theorem own_p2 (i0 i1 : Int32) (hv : i1 &&& (7 : Int32) = (2 : Int32)) : ∃ D', f0 [] i0 i1 = some ((1 : Int32), D') := by
  have w := own_v i0
  have b0 := own_by0 i0
  have b1 := own_by1 i0
  have b2 := own_by2 i0
  have b3 := own_by3 i0
  have k0 : (0 : Int64).toInt = 0 := by decide
  have z0 : ((0 : Int32) &&& (255 : Int32)).toInt = 0 := by decide
  obtain ⟨x0, e0, t0⟩ := own_f2 [own_by i0 1, own_by i0 0] (by simp) (0 : Int64) 0 (by decide) (by omega) (by omega)
  have t0' : x0.toInt = (0 : Int64).toInt * 256 + (own_by i0 1 &&& (255 : Int32)).toInt := t0
  rw [b1] at t0'
  rw [k0] at t0'
  clear t0
  obtain ⟨x1, e1, t1⟩ := own_f2 [own_by i0 1, own_by i0 0] (by simp) x0 1 (by decide) (by omega) (by omega)
  have t1' : x1.toInt = x0.toInt * 256 + (own_by i0 0 &&& (255 : Int32)).toInt := t1
  rw [b0] at t1'
  clear t1
  obtain ⟨x2, e2, t2⟩ := own_f2 [own_by i0 1, own_by i0 0] (by simp) x1 2 (by decide) (by omega) (by omega)
  have t2' : x2.toInt = x1.toInt := t2
  clear t2
  obtain ⟨x3, e3, t3⟩ := own_f2 [own_by i0 1, own_by i0 0] (by simp) x2 3 (by decide) (by omega) (by omega)
  have t3' : x3.toInt = x2.toInt := t3
  clear t3
  obtain ⟨x4, e4, t4⟩ := own_f2 [own_by i0 1, own_by i0 0] (by simp) x3 4 (by decide) (by omega) (by omega)
  have t4' : x4.toInt = x3.toInt := t4
  clear t4
  obtain ⟨x5, e5, t5⟩ := own_f2 [own_by i0 1, own_by i0 0] (by simp) x4 5 (by decide) (by omega) (by omega)
  have t5' : x5.toInt = x4.toInt := t5
  clear t5
  obtain ⟨x6, e6, t6⟩ := own_f2 [own_by i0 1, own_by i0 0] (by simp) x5 6 (by decide) (by omega) (by omega)
  have t6' : x6.toInt = x5.toInt := t6
  clear t6
  have l1 : lA [(0, ([own_by i0 1, own_by i0 0] : List Int32).map Value.int)] 0 0 = some (2 : Int32) := by rfl
  have e0' : f2 [(0, ([own_by i0 1, own_by i0 0] : List Int32).map Value.int)] (0 : Int64) 0 (0 : Int32) = some (x0, [(0, ([own_by i0 1, own_by i0 0] : List Int32).map Value.int)]) := e0
  have e1' : f2 [(0, ([own_by i0 1, own_by i0 0] : List Int32).map Value.int)] x0 0 (1 : Int32) = some (x1, [(0, ([own_by i0 1, own_by i0 0] : List Int32).map Value.int)]) := e1
  have e2' : f2 [(0, ([own_by i0 1, own_by i0 0] : List Int32).map Value.int)] x1 0 (2 : Int32) = some (x2, [(0, ([own_by i0 1, own_by i0 0] : List Int32).map Value.int)]) := e2
  have e3' : f2 [(0, ([own_by i0 1, own_by i0 0] : List Int32).map Value.int)] x2 0 (3 : Int32) = some (x3, [(0, ([own_by i0 1, own_by i0 0] : List Int32).map Value.int)]) := e3
  have e4' : f2 [(0, ([own_by i0 1, own_by i0 0] : List Int32).map Value.int)] x3 0 (4 : Int32) = some (x4, [(0, ([own_by i0 1, own_by i0 0] : List Int32).map Value.int)]) := e4
  have e5' : f2 [(0, ([own_by i0 1, own_by i0 0] : List Int32).map Value.int)] x4 0 (5 : Int32) = some (x5, [(0, ([own_by i0 1, own_by i0 0] : List Int32).map Value.int)]) := e5
  have e6' : f2 [(0, ([own_by i0 1, own_by i0 0] : List Int32).map Value.int)] x5 0 (6 : Int32) = some (x6, [(0, ([own_by i0 1, own_by i0 0] : List Int32).map Value.int)]) := e6
  have v1 : 0 ≤ i0.toInt % 4294967296 := by omega
  have v2 : i0.toInt % 4294967296 < 4294967296 := by omega
  apply own_ex
  simp only [f0, own_let, hv]
  rw [own_g2, Option.bind_some, l1, Option.bind_some, if_pos rfl, e0', Option.bind_some, e1', Option.bind_some, e2', Option.bind_some, e3', Option.bind_some, e4', Option.bind_some, e5', Option.bind_some, e6', Option.bind_some]
  have s1 : ((1 : Int64) <<< (((8 : Int32) * (2 : Int32)) &&& 0x3f).toInt64) = (65536 : Int64) := by decide
  have s2 := (c_lrem (i0.toInt64 &&& (4294967295 : Int64)) (65536 : Int64) 65536 (by decide)).1 (by rw [w]; omega)
  dsimp only
  rw [if_pos (by decide), s1, if_neg (by decide), if_pos (Int64.toInt_inj.mp (by rw [s2, w]; clear s2 w b0 b1 b2 b3 e0 e1 e2 e3 e4 e5 e6; generalize i0.toInt % 4294967296 = V at *; omega))]
  simp only [Option.map_some]
theorem own_g3 (i0 : Int32) : f1 [] i0 (3 : Int32) = some (0, [(0, ([own_by i0 2, own_by i0 1, own_by i0 0] : List Int32).map Value.int)]) := by
  have n0 : nA [] 0 (3 : Int32) 8 (.int (0 : Int32)) = some [(0, [(.int (0 : Int32)), (.int (0 : Int32)), (.int (0 : Int32))])] := rfl
  have w0 : wV [(0, [(.int (0 : Int32)), (.int (0 : Int32)), (.int (0 : Int32))])] 0 0 (((3 : Int32) - (1 : Int32)) - (0 : Int32)) (.int (own_by i0 0)) = some [(0, [(.int (0 : Int32)), (.int (0 : Int32)), (.int (own_by i0 0))])] := by
    generalize own_by i0 0 = v
    rfl
  have s0 : (0 : Int32) + (1 : Int32) = (1 : Int32) := rfl
  have w1 : wV [(0, [(.int (0 : Int32)), (.int (0 : Int32)), (.int (own_by i0 0))])] 0 0 (((3 : Int32) - (1 : Int32)) - (1 : Int32)) (.int (own_by i0 1)) = some [(0, [(.int (0 : Int32)), (.int (own_by i0 1)), (.int (own_by i0 0))])] := by
    generalize own_by i0 1 = v
    rfl
  have s1 : (1 : Int32) + (1 : Int32) = (2 : Int32) := rfl
  have w2 : wV [(0, [(.int (0 : Int32)), (.int (own_by i0 1)), (.int (own_by i0 0))])] 0 0 (((3 : Int32) - (1 : Int32)) - (2 : Int32)) (.int (own_by i0 2)) = some [(0, [(.int (own_by i0 2)), (.int (own_by i0 1)), (.int (own_by i0 0))])] := by
    generalize own_by i0 2 = v
    rfl
  have s2 : (2 : Int32) + (1 : Int32) = (3 : Int32) := rfl
  rw [own_f1e, n0, Option.bind_some, List.length_nil, own_b16, if_pos (by decide), if_pos (by decide), w0, Option.bind_some, s0, own_b16, if_pos (by decide), if_pos (by decide), w1, Option.bind_some, s1, own_b16, if_pos (by decide), if_pos (by decide), w2, Option.bind_some, s2, own_b16, if_neg (by decide)]
  simp only [List.map_cons, List.map_nil]
theorem own_p3 (i0 i1 : Int32) (hv : i1 &&& (7 : Int32) = (3 : Int32)) : ∃ D', f0 [] i0 i1 = some ((1 : Int32), D') := by
  have w := own_v i0
  have b0 := own_by0 i0
  have b1 := own_by1 i0
  have b2 := own_by2 i0
  have b3 := own_by3 i0
  have k0 : (0 : Int64).toInt = 0 := by decide
  have z0 : ((0 : Int32) &&& (255 : Int32)).toInt = 0 := by decide
  obtain ⟨x0, e0, t0⟩ := own_f2 [own_by i0 2, own_by i0 1, own_by i0 0] (by simp) (0 : Int64) 0 (by decide) (by omega) (by omega)
  have t0' : x0.toInt = (0 : Int64).toInt * 256 + (own_by i0 2 &&& (255 : Int32)).toInt := t0
  rw [b2] at t0'
  rw [k0] at t0'
  clear t0
  obtain ⟨x1, e1, t1⟩ := own_f2 [own_by i0 2, own_by i0 1, own_by i0 0] (by simp) x0 1 (by decide) (by omega) (by omega)
  have t1' : x1.toInt = x0.toInt * 256 + (own_by i0 1 &&& (255 : Int32)).toInt := t1
  rw [b1] at t1'
  clear t1
  obtain ⟨x2, e2, t2⟩ := own_f2 [own_by i0 2, own_by i0 1, own_by i0 0] (by simp) x1 2 (by decide) (by omega) (by omega)
  have t2' : x2.toInt = x1.toInt * 256 + (own_by i0 0 &&& (255 : Int32)).toInt := t2
  rw [b0] at t2'
  clear t2
  obtain ⟨x3, e3, t3⟩ := own_f2 [own_by i0 2, own_by i0 1, own_by i0 0] (by simp) x2 3 (by decide) (by omega) (by omega)
  have t3' : x3.toInt = x2.toInt := t3
  clear t3
  obtain ⟨x4, e4, t4⟩ := own_f2 [own_by i0 2, own_by i0 1, own_by i0 0] (by simp) x3 4 (by decide) (by omega) (by omega)
  have t4' : x4.toInt = x3.toInt := t4
  clear t4
  obtain ⟨x5, e5, t5⟩ := own_f2 [own_by i0 2, own_by i0 1, own_by i0 0] (by simp) x4 5 (by decide) (by omega) (by omega)
  have t5' : x5.toInt = x4.toInt := t5
  clear t5
  obtain ⟨x6, e6, t6⟩ := own_f2 [own_by i0 2, own_by i0 1, own_by i0 0] (by simp) x5 6 (by decide) (by omega) (by omega)
  have t6' : x6.toInt = x5.toInt := t6
  clear t6
  have l1 : lA [(0, ([own_by i0 2, own_by i0 1, own_by i0 0] : List Int32).map Value.int)] 0 0 = some (3 : Int32) := by rfl
  have e0' : f2 [(0, ([own_by i0 2, own_by i0 1, own_by i0 0] : List Int32).map Value.int)] (0 : Int64) 0 (0 : Int32) = some (x0, [(0, ([own_by i0 2, own_by i0 1, own_by i0 0] : List Int32).map Value.int)]) := e0
  have e1' : f2 [(0, ([own_by i0 2, own_by i0 1, own_by i0 0] : List Int32).map Value.int)] x0 0 (1 : Int32) = some (x1, [(0, ([own_by i0 2, own_by i0 1, own_by i0 0] : List Int32).map Value.int)]) := e1
  have e2' : f2 [(0, ([own_by i0 2, own_by i0 1, own_by i0 0] : List Int32).map Value.int)] x1 0 (2 : Int32) = some (x2, [(0, ([own_by i0 2, own_by i0 1, own_by i0 0] : List Int32).map Value.int)]) := e2
  have e3' : f2 [(0, ([own_by i0 2, own_by i0 1, own_by i0 0] : List Int32).map Value.int)] x2 0 (3 : Int32) = some (x3, [(0, ([own_by i0 2, own_by i0 1, own_by i0 0] : List Int32).map Value.int)]) := e3
  have e4' : f2 [(0, ([own_by i0 2, own_by i0 1, own_by i0 0] : List Int32).map Value.int)] x3 0 (4 : Int32) = some (x4, [(0, ([own_by i0 2, own_by i0 1, own_by i0 0] : List Int32).map Value.int)]) := e4
  have e5' : f2 [(0, ([own_by i0 2, own_by i0 1, own_by i0 0] : List Int32).map Value.int)] x4 0 (5 : Int32) = some (x5, [(0, ([own_by i0 2, own_by i0 1, own_by i0 0] : List Int32).map Value.int)]) := e5
  have e6' : f2 [(0, ([own_by i0 2, own_by i0 1, own_by i0 0] : List Int32).map Value.int)] x5 0 (6 : Int32) = some (x6, [(0, ([own_by i0 2, own_by i0 1, own_by i0 0] : List Int32).map Value.int)]) := e6
  have v1 : 0 ≤ i0.toInt % 4294967296 := by omega
  have v2 : i0.toInt % 4294967296 < 4294967296 := by omega
  apply own_ex
  simp only [f0, own_let, hv]
  rw [own_g3, Option.bind_some, l1, Option.bind_some, if_pos rfl, e0', Option.bind_some, e1', Option.bind_some, e2', Option.bind_some, e3', Option.bind_some, e4', Option.bind_some, e5', Option.bind_some, e6', Option.bind_some]
  have s1 : ((1 : Int64) <<< (((8 : Int32) * (3 : Int32)) &&& 0x3f).toInt64) = (16777216 : Int64) := by decide
  have s2 := (c_lrem (i0.toInt64 &&& (4294967295 : Int64)) (16777216 : Int64) 16777216 (by decide)).1 (by rw [w]; omega)
  dsimp only
  rw [if_pos (by decide), s1, if_neg (by decide), if_pos (Int64.toInt_inj.mp (by rw [s2, w]; clear s2 w b0 b1 b2 b3 e0 e1 e2 e3 e4 e5 e6; generalize i0.toInt % 4294967296 = V at *; omega))]
  simp only [Option.map_some]
theorem own_g4 (i0 : Int32) : f1 [] i0 (4 : Int32) = some (0, [(0, ([own_by i0 3, own_by i0 2, own_by i0 1, own_by i0 0] : List Int32).map Value.int)]) := by
  have n0 : nA [] 0 (4 : Int32) 8 (.int (0 : Int32)) = some [(0, [(.int (0 : Int32)), (.int (0 : Int32)), (.int (0 : Int32)), (.int (0 : Int32))])] := rfl
  have w0 : wV [(0, [(.int (0 : Int32)), (.int (0 : Int32)), (.int (0 : Int32)), (.int (0 : Int32))])] 0 0 (((4 : Int32) - (1 : Int32)) - (0 : Int32)) (.int (own_by i0 0)) = some [(0, [(.int (0 : Int32)), (.int (0 : Int32)), (.int (0 : Int32)), (.int (own_by i0 0))])] := by
    generalize own_by i0 0 = v
    rfl
  have s0 : (0 : Int32) + (1 : Int32) = (1 : Int32) := rfl
  have w1 : wV [(0, [(.int (0 : Int32)), (.int (0 : Int32)), (.int (0 : Int32)), (.int (own_by i0 0))])] 0 0 (((4 : Int32) - (1 : Int32)) - (1 : Int32)) (.int (own_by i0 1)) = some [(0, [(.int (0 : Int32)), (.int (0 : Int32)), (.int (own_by i0 1)), (.int (own_by i0 0))])] := by
    generalize own_by i0 1 = v
    rfl
  have s1 : (1 : Int32) + (1 : Int32) = (2 : Int32) := rfl
  have w2 : wV [(0, [(.int (0 : Int32)), (.int (0 : Int32)), (.int (own_by i0 1)), (.int (own_by i0 0))])] 0 0 (((4 : Int32) - (1 : Int32)) - (2 : Int32)) (.int (own_by i0 2)) = some [(0, [(.int (0 : Int32)), (.int (own_by i0 2)), (.int (own_by i0 1)), (.int (own_by i0 0))])] := by
    generalize own_by i0 2 = v
    rfl
  have s2 : (2 : Int32) + (1 : Int32) = (3 : Int32) := rfl
  have w3 : wV [(0, [(.int (0 : Int32)), (.int (own_by i0 2)), (.int (own_by i0 1)), (.int (own_by i0 0))])] 0 0 (((4 : Int32) - (1 : Int32)) - (3 : Int32)) (.int (own_by i0 3)) = some [(0, [(.int (own_by i0 3)), (.int (own_by i0 2)), (.int (own_by i0 1)), (.int (own_by i0 0))])] := by
    generalize own_by i0 3 = v
    rfl
  have s3 : (3 : Int32) + (1 : Int32) = (4 : Int32) := rfl
  rw [own_f1e, n0, Option.bind_some, List.length_nil, own_b16, if_pos (by decide), if_pos (by decide), w0, Option.bind_some, s0, own_b16, if_pos (by decide), if_pos (by decide), w1, Option.bind_some, s1, own_b16, if_pos (by decide), if_pos (by decide), w2, Option.bind_some, s2, own_b16, if_pos (by decide), if_pos (by decide), w3, Option.bind_some, s3, own_b16, if_neg (by decide)]
  simp only [List.map_cons, List.map_nil]
theorem own_p4 (i0 i1 : Int32) (hv : i1 &&& (7 : Int32) = (4 : Int32)) : ∃ D', f0 [] i0 i1 = some ((1 : Int32), D') := by
  have w := own_v i0
  have b0 := own_by0 i0
  have b1 := own_by1 i0
  have b2 := own_by2 i0
  have b3 := own_by3 i0
  have k0 : (0 : Int64).toInt = 0 := by decide
  have z0 : ((0 : Int32) &&& (255 : Int32)).toInt = 0 := by decide
  obtain ⟨x0, e0, t0⟩ := own_f2 [own_by i0 3, own_by i0 2, own_by i0 1, own_by i0 0] (by simp) (0 : Int64) 0 (by decide) (by omega) (by omega)
  have t0' : x0.toInt = (0 : Int64).toInt * 256 + (own_by i0 3 &&& (255 : Int32)).toInt := t0
  rw [b3] at t0'
  rw [k0] at t0'
  clear t0
  obtain ⟨x1, e1, t1⟩ := own_f2 [own_by i0 3, own_by i0 2, own_by i0 1, own_by i0 0] (by simp) x0 1 (by decide) (by omega) (by omega)
  have t1' : x1.toInt = x0.toInt * 256 + (own_by i0 2 &&& (255 : Int32)).toInt := t1
  rw [b2] at t1'
  clear t1
  obtain ⟨x2, e2, t2⟩ := own_f2 [own_by i0 3, own_by i0 2, own_by i0 1, own_by i0 0] (by simp) x1 2 (by decide) (by omega) (by omega)
  have t2' : x2.toInt = x1.toInt * 256 + (own_by i0 1 &&& (255 : Int32)).toInt := t2
  rw [b1] at t2'
  clear t2
  obtain ⟨x3, e3, t3⟩ := own_f2 [own_by i0 3, own_by i0 2, own_by i0 1, own_by i0 0] (by simp) x2 3 (by decide) (by omega) (by omega)
  have t3' : x3.toInt = x2.toInt * 256 + (own_by i0 0 &&& (255 : Int32)).toInt := t3
  rw [b0] at t3'
  clear t3
  obtain ⟨x4, e4, t4⟩ := own_f2 [own_by i0 3, own_by i0 2, own_by i0 1, own_by i0 0] (by simp) x3 4 (by decide) (by omega) (by omega)
  have t4' : x4.toInt = x3.toInt := t4
  clear t4
  obtain ⟨x5, e5, t5⟩ := own_f2 [own_by i0 3, own_by i0 2, own_by i0 1, own_by i0 0] (by simp) x4 5 (by decide) (by omega) (by omega)
  have t5' : x5.toInt = x4.toInt := t5
  clear t5
  obtain ⟨x6, e6, t6⟩ := own_f2 [own_by i0 3, own_by i0 2, own_by i0 1, own_by i0 0] (by simp) x5 6 (by decide) (by omega) (by omega)
  have t6' : x6.toInt = x5.toInt := t6
  clear t6
  have l1 : lA [(0, ([own_by i0 3, own_by i0 2, own_by i0 1, own_by i0 0] : List Int32).map Value.int)] 0 0 = some (4 : Int32) := by rfl
  have e0' : f2 [(0, ([own_by i0 3, own_by i0 2, own_by i0 1, own_by i0 0] : List Int32).map Value.int)] (0 : Int64) 0 (0 : Int32) = some (x0, [(0, ([own_by i0 3, own_by i0 2, own_by i0 1, own_by i0 0] : List Int32).map Value.int)]) := e0
  have e1' : f2 [(0, ([own_by i0 3, own_by i0 2, own_by i0 1, own_by i0 0] : List Int32).map Value.int)] x0 0 (1 : Int32) = some (x1, [(0, ([own_by i0 3, own_by i0 2, own_by i0 1, own_by i0 0] : List Int32).map Value.int)]) := e1
  have e2' : f2 [(0, ([own_by i0 3, own_by i0 2, own_by i0 1, own_by i0 0] : List Int32).map Value.int)] x1 0 (2 : Int32) = some (x2, [(0, ([own_by i0 3, own_by i0 2, own_by i0 1, own_by i0 0] : List Int32).map Value.int)]) := e2
  have e3' : f2 [(0, ([own_by i0 3, own_by i0 2, own_by i0 1, own_by i0 0] : List Int32).map Value.int)] x2 0 (3 : Int32) = some (x3, [(0, ([own_by i0 3, own_by i0 2, own_by i0 1, own_by i0 0] : List Int32).map Value.int)]) := e3
  have e4' : f2 [(0, ([own_by i0 3, own_by i0 2, own_by i0 1, own_by i0 0] : List Int32).map Value.int)] x3 0 (4 : Int32) = some (x4, [(0, ([own_by i0 3, own_by i0 2, own_by i0 1, own_by i0 0] : List Int32).map Value.int)]) := e4
  have e5' : f2 [(0, ([own_by i0 3, own_by i0 2, own_by i0 1, own_by i0 0] : List Int32).map Value.int)] x4 0 (5 : Int32) = some (x5, [(0, ([own_by i0 3, own_by i0 2, own_by i0 1, own_by i0 0] : List Int32).map Value.int)]) := e5
  have e6' : f2 [(0, ([own_by i0 3, own_by i0 2, own_by i0 1, own_by i0 0] : List Int32).map Value.int)] x5 0 (6 : Int32) = some (x6, [(0, ([own_by i0 3, own_by i0 2, own_by i0 1, own_by i0 0] : List Int32).map Value.int)]) := e6
  have v1 : 0 ≤ i0.toInt % 4294967296 := by omega
  have v2 : i0.toInt % 4294967296 < 4294967296 := by omega
  apply own_ex
  simp only [f0, own_let, hv]
  rw [own_g4, Option.bind_some, l1, Option.bind_some, if_pos rfl, e0', Option.bind_some, e1', Option.bind_some, e2', Option.bind_some, e3', Option.bind_some, e4', Option.bind_some, e5', Option.bind_some, e6', Option.bind_some]
  dsimp only
  rw [if_neg (by decide), if_pos (Int64.toInt_inj.mp (by rw [w]; clear w b0 b1 b2 b3 e0 e1 e2 e3 e4 e5 e6; generalize i0.toInt % 4294967296 = V at *; omega))]
  simp only [Option.map_some]
theorem own_g5 (i0 : Int32) : f1 [] i0 (5 : Int32) = some (0, [(0, ([0, own_by i0 3, own_by i0 2, own_by i0 1, own_by i0 0] : List Int32).map Value.int)]) := by
  have n0 : nA [] 0 (5 : Int32) 8 (.int (0 : Int32)) = some [(0, [(.int (0 : Int32)), (.int (0 : Int32)), (.int (0 : Int32)), (.int (0 : Int32)), (.int (0 : Int32))])] := rfl
  have w0 : wV [(0, [(.int (0 : Int32)), (.int (0 : Int32)), (.int (0 : Int32)), (.int (0 : Int32)), (.int (0 : Int32))])] 0 0 (((5 : Int32) - (1 : Int32)) - (0 : Int32)) (.int (own_by i0 0)) = some [(0, [(.int (0 : Int32)), (.int (0 : Int32)), (.int (0 : Int32)), (.int (0 : Int32)), (.int (own_by i0 0))])] := by
    generalize own_by i0 0 = v
    rfl
  have s0 : (0 : Int32) + (1 : Int32) = (1 : Int32) := rfl
  have w1 : wV [(0, [(.int (0 : Int32)), (.int (0 : Int32)), (.int (0 : Int32)), (.int (0 : Int32)), (.int (own_by i0 0))])] 0 0 (((5 : Int32) - (1 : Int32)) - (1 : Int32)) (.int (own_by i0 1)) = some [(0, [(.int (0 : Int32)), (.int (0 : Int32)), (.int (0 : Int32)), (.int (own_by i0 1)), (.int (own_by i0 0))])] := by
    generalize own_by i0 1 = v
    rfl
  have s1 : (1 : Int32) + (1 : Int32) = (2 : Int32) := rfl
  have w2 : wV [(0, [(.int (0 : Int32)), (.int (0 : Int32)), (.int (0 : Int32)), (.int (own_by i0 1)), (.int (own_by i0 0))])] 0 0 (((5 : Int32) - (1 : Int32)) - (2 : Int32)) (.int (own_by i0 2)) = some [(0, [(.int (0 : Int32)), (.int (0 : Int32)), (.int (own_by i0 2)), (.int (own_by i0 1)), (.int (own_by i0 0))])] := by
    generalize own_by i0 2 = v
    rfl
  have s2 : (2 : Int32) + (1 : Int32) = (3 : Int32) := rfl
  have w3 : wV [(0, [(.int (0 : Int32)), (.int (0 : Int32)), (.int (own_by i0 2)), (.int (own_by i0 1)), (.int (own_by i0 0))])] 0 0 (((5 : Int32) - (1 : Int32)) - (3 : Int32)) (.int (own_by i0 3)) = some [(0, [(.int (0 : Int32)), (.int (own_by i0 3)), (.int (own_by i0 2)), (.int (own_by i0 1)), (.int (own_by i0 0))])] := by
    generalize own_by i0 3 = v
    rfl
  have s3 : (3 : Int32) + (1 : Int32) = (4 : Int32) := rfl
  rw [own_f1e, n0, Option.bind_some, List.length_nil, own_b16, if_pos (by decide), if_pos (by decide), w0, Option.bind_some, s0, own_b16, if_pos (by decide), if_pos (by decide), w1, Option.bind_some, s1, own_b16, if_pos (by decide), if_pos (by decide), w2, Option.bind_some, s2, own_b16, if_pos (by decide), if_pos (by decide), w3, Option.bind_some, s3, own_b16, if_pos (by decide), if_neg (by decide)]
  simp only [List.map_cons, List.map_nil]
theorem own_p5 (i0 i1 : Int32) (hv : i1 &&& (7 : Int32) = (5 : Int32)) : ∃ D', f0 [] i0 i1 = some ((1 : Int32), D') := by
  have w := own_v i0
  have b0 := own_by0 i0
  have b1 := own_by1 i0
  have b2 := own_by2 i0
  have b3 := own_by3 i0
  have k0 : (0 : Int64).toInt = 0 := by decide
  have z0 : ((0 : Int32) &&& (255 : Int32)).toInt = 0 := by decide
  obtain ⟨x0, e0, t0⟩ := own_f2 [0, own_by i0 3, own_by i0 2, own_by i0 1, own_by i0 0] (by simp) (0 : Int64) 0 (by decide) (by omega) (by omega)
  have t0' : x0.toInt = (0 : Int64).toInt * 256 + (0 &&& (255 : Int32)).toInt := t0
  rw [z0] at t0'
  rw [k0] at t0'
  clear t0
  obtain ⟨x1, e1, t1⟩ := own_f2 [0, own_by i0 3, own_by i0 2, own_by i0 1, own_by i0 0] (by simp) x0 1 (by decide) (by omega) (by omega)
  have t1' : x1.toInt = x0.toInt * 256 + (own_by i0 3 &&& (255 : Int32)).toInt := t1
  rw [b3] at t1'
  clear t1
  obtain ⟨x2, e2, t2⟩ := own_f2 [0, own_by i0 3, own_by i0 2, own_by i0 1, own_by i0 0] (by simp) x1 2 (by decide) (by omega) (by omega)
  have t2' : x2.toInt = x1.toInt * 256 + (own_by i0 2 &&& (255 : Int32)).toInt := t2
  rw [b2] at t2'
  clear t2
  obtain ⟨x3, e3, t3⟩ := own_f2 [0, own_by i0 3, own_by i0 2, own_by i0 1, own_by i0 0] (by simp) x2 3 (by decide) (by omega) (by omega)
  have t3' : x3.toInt = x2.toInt * 256 + (own_by i0 1 &&& (255 : Int32)).toInt := t3
  rw [b1] at t3'
  clear t3
  obtain ⟨x4, e4, t4⟩ := own_f2 [0, own_by i0 3, own_by i0 2, own_by i0 1, own_by i0 0] (by simp) x3 4 (by decide) (by omega) (by omega)
  have t4' : x4.toInt = x3.toInt * 256 + (own_by i0 0 &&& (255 : Int32)).toInt := t4
  rw [b0] at t4'
  clear t4
  obtain ⟨x5, e5, t5⟩ := own_f2 [0, own_by i0 3, own_by i0 2, own_by i0 1, own_by i0 0] (by simp) x4 5 (by decide) (by omega) (by omega)
  have t5' : x5.toInt = x4.toInt := t5
  clear t5
  obtain ⟨x6, e6, t6⟩ := own_f2 [0, own_by i0 3, own_by i0 2, own_by i0 1, own_by i0 0] (by simp) x5 6 (by decide) (by omega) (by omega)
  have t6' : x6.toInt = x5.toInt := t6
  clear t6
  have l1 : lA [(0, ([0, own_by i0 3, own_by i0 2, own_by i0 1, own_by i0 0] : List Int32).map Value.int)] 0 0 = some (5 : Int32) := by rfl
  have e0' : f2 [(0, ([0, own_by i0 3, own_by i0 2, own_by i0 1, own_by i0 0] : List Int32).map Value.int)] (0 : Int64) 0 (0 : Int32) = some (x0, [(0, ([0, own_by i0 3, own_by i0 2, own_by i0 1, own_by i0 0] : List Int32).map Value.int)]) := e0
  have e1' : f2 [(0, ([0, own_by i0 3, own_by i0 2, own_by i0 1, own_by i0 0] : List Int32).map Value.int)] x0 0 (1 : Int32) = some (x1, [(0, ([0, own_by i0 3, own_by i0 2, own_by i0 1, own_by i0 0] : List Int32).map Value.int)]) := e1
  have e2' : f2 [(0, ([0, own_by i0 3, own_by i0 2, own_by i0 1, own_by i0 0] : List Int32).map Value.int)] x1 0 (2 : Int32) = some (x2, [(0, ([0, own_by i0 3, own_by i0 2, own_by i0 1, own_by i0 0] : List Int32).map Value.int)]) := e2
  have e3' : f2 [(0, ([0, own_by i0 3, own_by i0 2, own_by i0 1, own_by i0 0] : List Int32).map Value.int)] x2 0 (3 : Int32) = some (x3, [(0, ([0, own_by i0 3, own_by i0 2, own_by i0 1, own_by i0 0] : List Int32).map Value.int)]) := e3
  have e4' : f2 [(0, ([0, own_by i0 3, own_by i0 2, own_by i0 1, own_by i0 0] : List Int32).map Value.int)] x3 0 (4 : Int32) = some (x4, [(0, ([0, own_by i0 3, own_by i0 2, own_by i0 1, own_by i0 0] : List Int32).map Value.int)]) := e4
  have e5' : f2 [(0, ([0, own_by i0 3, own_by i0 2, own_by i0 1, own_by i0 0] : List Int32).map Value.int)] x4 0 (5 : Int32) = some (x5, [(0, ([0, own_by i0 3, own_by i0 2, own_by i0 1, own_by i0 0] : List Int32).map Value.int)]) := e5
  have e6' : f2 [(0, ([0, own_by i0 3, own_by i0 2, own_by i0 1, own_by i0 0] : List Int32).map Value.int)] x5 0 (6 : Int32) = some (x6, [(0, ([0, own_by i0 3, own_by i0 2, own_by i0 1, own_by i0 0] : List Int32).map Value.int)]) := e6
  have v1 : 0 ≤ i0.toInt % 4294967296 := by omega
  have v2 : i0.toInt % 4294967296 < 4294967296 := by omega
  apply own_ex
  simp only [f0, own_let, hv]
  rw [own_g5, Option.bind_some, l1, Option.bind_some, if_pos rfl, e0', Option.bind_some, e1', Option.bind_some, e2', Option.bind_some, e3', Option.bind_some, e4', Option.bind_some, e5', Option.bind_some, e6', Option.bind_some]
  dsimp only
  rw [if_neg (by decide), if_pos (Int64.toInt_inj.mp (by rw [w]; clear w b0 b1 b2 b3 e0 e1 e2 e3 e4 e5 e6; generalize i0.toInt % 4294967296 = V at *; omega))]
  simp only [Option.map_some]
theorem own_g6 (i0 : Int32) : f1 [] i0 (6 : Int32) = some (0, [(0, ([0, 0, own_by i0 3, own_by i0 2, own_by i0 1, own_by i0 0] : List Int32).map Value.int)]) := by
  have n0 : nA [] 0 (6 : Int32) 8 (.int (0 : Int32)) = some [(0, [(.int (0 : Int32)), (.int (0 : Int32)), (.int (0 : Int32)), (.int (0 : Int32)), (.int (0 : Int32)), (.int (0 : Int32))])] := rfl
  have w0 : wV [(0, [(.int (0 : Int32)), (.int (0 : Int32)), (.int (0 : Int32)), (.int (0 : Int32)), (.int (0 : Int32)), (.int (0 : Int32))])] 0 0 (((6 : Int32) - (1 : Int32)) - (0 : Int32)) (.int (own_by i0 0)) = some [(0, [(.int (0 : Int32)), (.int (0 : Int32)), (.int (0 : Int32)), (.int (0 : Int32)), (.int (0 : Int32)), (.int (own_by i0 0))])] := by
    generalize own_by i0 0 = v
    rfl
  have s0 : (0 : Int32) + (1 : Int32) = (1 : Int32) := rfl
  have w1 : wV [(0, [(.int (0 : Int32)), (.int (0 : Int32)), (.int (0 : Int32)), (.int (0 : Int32)), (.int (0 : Int32)), (.int (own_by i0 0))])] 0 0 (((6 : Int32) - (1 : Int32)) - (1 : Int32)) (.int (own_by i0 1)) = some [(0, [(.int (0 : Int32)), (.int (0 : Int32)), (.int (0 : Int32)), (.int (0 : Int32)), (.int (own_by i0 1)), (.int (own_by i0 0))])] := by
    generalize own_by i0 1 = v
    rfl
  have s1 : (1 : Int32) + (1 : Int32) = (2 : Int32) := rfl
  have w2 : wV [(0, [(.int (0 : Int32)), (.int (0 : Int32)), (.int (0 : Int32)), (.int (0 : Int32)), (.int (own_by i0 1)), (.int (own_by i0 0))])] 0 0 (((6 : Int32) - (1 : Int32)) - (2 : Int32)) (.int (own_by i0 2)) = some [(0, [(.int (0 : Int32)), (.int (0 : Int32)), (.int (0 : Int32)), (.int (own_by i0 2)), (.int (own_by i0 1)), (.int (own_by i0 0))])] := by
    generalize own_by i0 2 = v
    rfl
  have s2 : (2 : Int32) + (1 : Int32) = (3 : Int32) := rfl
  have w3 : wV [(0, [(.int (0 : Int32)), (.int (0 : Int32)), (.int (0 : Int32)), (.int (own_by i0 2)), (.int (own_by i0 1)), (.int (own_by i0 0))])] 0 0 (((6 : Int32) - (1 : Int32)) - (3 : Int32)) (.int (own_by i0 3)) = some [(0, [(.int (0 : Int32)), (.int (0 : Int32)), (.int (own_by i0 3)), (.int (own_by i0 2)), (.int (own_by i0 1)), (.int (own_by i0 0))])] := by
    generalize own_by i0 3 = v
    rfl
  have s3 : (3 : Int32) + (1 : Int32) = (4 : Int32) := rfl
  rw [own_f1e, n0, Option.bind_some, List.length_nil, own_b16, if_pos (by decide), if_pos (by decide), w0, Option.bind_some, s0, own_b16, if_pos (by decide), if_pos (by decide), w1, Option.bind_some, s1, own_b16, if_pos (by decide), if_pos (by decide), w2, Option.bind_some, s2, own_b16, if_pos (by decide), if_pos (by decide), w3, Option.bind_some, s3, own_b16, if_pos (by decide), if_neg (by decide)]
  simp only [List.map_cons, List.map_nil]
theorem own_p6 (i0 i1 : Int32) (hv : i1 &&& (7 : Int32) = (6 : Int32)) : ∃ D', f0 [] i0 i1 = some ((1 : Int32), D') := by
  have w := own_v i0
  have b0 := own_by0 i0
  have b1 := own_by1 i0
  have b2 := own_by2 i0
  have b3 := own_by3 i0
  have k0 : (0 : Int64).toInt = 0 := by decide
  have z0 : ((0 : Int32) &&& (255 : Int32)).toInt = 0 := by decide
  obtain ⟨x0, e0, t0⟩ := own_f2 [0, 0, own_by i0 3, own_by i0 2, own_by i0 1, own_by i0 0] (by simp) (0 : Int64) 0 (by decide) (by omega) (by omega)
  have t0' : x0.toInt = (0 : Int64).toInt * 256 + (0 &&& (255 : Int32)).toInt := t0
  rw [z0] at t0'
  rw [k0] at t0'
  clear t0
  obtain ⟨x1, e1, t1⟩ := own_f2 [0, 0, own_by i0 3, own_by i0 2, own_by i0 1, own_by i0 0] (by simp) x0 1 (by decide) (by omega) (by omega)
  have t1' : x1.toInt = x0.toInt * 256 + (0 &&& (255 : Int32)).toInt := t1
  rw [z0] at t1'
  clear t1
  obtain ⟨x2, e2, t2⟩ := own_f2 [0, 0, own_by i0 3, own_by i0 2, own_by i0 1, own_by i0 0] (by simp) x1 2 (by decide) (by omega) (by omega)
  have t2' : x2.toInt = x1.toInt * 256 + (own_by i0 3 &&& (255 : Int32)).toInt := t2
  rw [b3] at t2'
  clear t2
  obtain ⟨x3, e3, t3⟩ := own_f2 [0, 0, own_by i0 3, own_by i0 2, own_by i0 1, own_by i0 0] (by simp) x2 3 (by decide) (by omega) (by omega)
  have t3' : x3.toInt = x2.toInt * 256 + (own_by i0 2 &&& (255 : Int32)).toInt := t3
  rw [b2] at t3'
  clear t3
  obtain ⟨x4, e4, t4⟩ := own_f2 [0, 0, own_by i0 3, own_by i0 2, own_by i0 1, own_by i0 0] (by simp) x3 4 (by decide) (by omega) (by omega)
  have t4' : x4.toInt = x3.toInt * 256 + (own_by i0 1 &&& (255 : Int32)).toInt := t4
  rw [b1] at t4'
  clear t4
  obtain ⟨x5, e5, t5⟩ := own_f2 [0, 0, own_by i0 3, own_by i0 2, own_by i0 1, own_by i0 0] (by simp) x4 5 (by decide) (by omega) (by omega)
  have t5' : x5.toInt = x4.toInt * 256 + (own_by i0 0 &&& (255 : Int32)).toInt := t5
  rw [b0] at t5'
  clear t5
  obtain ⟨x6, e6, t6⟩ := own_f2 [0, 0, own_by i0 3, own_by i0 2, own_by i0 1, own_by i0 0] (by simp) x5 6 (by decide) (by omega) (by omega)
  have t6' : x6.toInt = x5.toInt := t6
  clear t6
  have l1 : lA [(0, ([0, 0, own_by i0 3, own_by i0 2, own_by i0 1, own_by i0 0] : List Int32).map Value.int)] 0 0 = some (6 : Int32) := by rfl
  have e0' : f2 [(0, ([0, 0, own_by i0 3, own_by i0 2, own_by i0 1, own_by i0 0] : List Int32).map Value.int)] (0 : Int64) 0 (0 : Int32) = some (x0, [(0, ([0, 0, own_by i0 3, own_by i0 2, own_by i0 1, own_by i0 0] : List Int32).map Value.int)]) := e0
  have e1' : f2 [(0, ([0, 0, own_by i0 3, own_by i0 2, own_by i0 1, own_by i0 0] : List Int32).map Value.int)] x0 0 (1 : Int32) = some (x1, [(0, ([0, 0, own_by i0 3, own_by i0 2, own_by i0 1, own_by i0 0] : List Int32).map Value.int)]) := e1
  have e2' : f2 [(0, ([0, 0, own_by i0 3, own_by i0 2, own_by i0 1, own_by i0 0] : List Int32).map Value.int)] x1 0 (2 : Int32) = some (x2, [(0, ([0, 0, own_by i0 3, own_by i0 2, own_by i0 1, own_by i0 0] : List Int32).map Value.int)]) := e2
  have e3' : f2 [(0, ([0, 0, own_by i0 3, own_by i0 2, own_by i0 1, own_by i0 0] : List Int32).map Value.int)] x2 0 (3 : Int32) = some (x3, [(0, ([0, 0, own_by i0 3, own_by i0 2, own_by i0 1, own_by i0 0] : List Int32).map Value.int)]) := e3
  have e4' : f2 [(0, ([0, 0, own_by i0 3, own_by i0 2, own_by i0 1, own_by i0 0] : List Int32).map Value.int)] x3 0 (4 : Int32) = some (x4, [(0, ([0, 0, own_by i0 3, own_by i0 2, own_by i0 1, own_by i0 0] : List Int32).map Value.int)]) := e4
  have e5' : f2 [(0, ([0, 0, own_by i0 3, own_by i0 2, own_by i0 1, own_by i0 0] : List Int32).map Value.int)] x4 0 (5 : Int32) = some (x5, [(0, ([0, 0, own_by i0 3, own_by i0 2, own_by i0 1, own_by i0 0] : List Int32).map Value.int)]) := e5
  have e6' : f2 [(0, ([0, 0, own_by i0 3, own_by i0 2, own_by i0 1, own_by i0 0] : List Int32).map Value.int)] x5 0 (6 : Int32) = some (x6, [(0, ([0, 0, own_by i0 3, own_by i0 2, own_by i0 1, own_by i0 0] : List Int32).map Value.int)]) := e6
  have v1 : 0 ≤ i0.toInt % 4294967296 := by omega
  have v2 : i0.toInt % 4294967296 < 4294967296 := by omega
  apply own_ex
  simp only [f0, own_let, hv]
  rw [own_g6, Option.bind_some, l1, Option.bind_some, if_pos rfl, e0', Option.bind_some, e1', Option.bind_some, e2', Option.bind_some, e3', Option.bind_some, e4', Option.bind_some, e5', Option.bind_some, e6', Option.bind_some]
  dsimp only
  rw [if_neg (by decide), if_pos (Int64.toInt_inj.mp (by rw [w]; clear w b0 b1 b2 b3 e0 e1 e2 e3 e4 e5 e6; generalize i0.toInt % 4294967296 = V at *; omega))]
  simp only [Option.map_some]
theorem own_g7 (i0 : Int32) : f1 [] i0 (7 : Int32) = some (0, [(0, ([0, 0, 0, own_by i0 3, own_by i0 2, own_by i0 1, own_by i0 0] : List Int32).map Value.int)]) := by
  have n0 : nA [] 0 (7 : Int32) 8 (.int (0 : Int32)) = some [(0, [(.int (0 : Int32)), (.int (0 : Int32)), (.int (0 : Int32)), (.int (0 : Int32)), (.int (0 : Int32)), (.int (0 : Int32)), (.int (0 : Int32))])] := rfl
  have w0 : wV [(0, [(.int (0 : Int32)), (.int (0 : Int32)), (.int (0 : Int32)), (.int (0 : Int32)), (.int (0 : Int32)), (.int (0 : Int32)), (.int (0 : Int32))])] 0 0 (((7 : Int32) - (1 : Int32)) - (0 : Int32)) (.int (own_by i0 0)) = some [(0, [(.int (0 : Int32)), (.int (0 : Int32)), (.int (0 : Int32)), (.int (0 : Int32)), (.int (0 : Int32)), (.int (0 : Int32)), (.int (own_by i0 0))])] := by
    generalize own_by i0 0 = v
    rfl
  have s0 : (0 : Int32) + (1 : Int32) = (1 : Int32) := rfl
  have w1 : wV [(0, [(.int (0 : Int32)), (.int (0 : Int32)), (.int (0 : Int32)), (.int (0 : Int32)), (.int (0 : Int32)), (.int (0 : Int32)), (.int (own_by i0 0))])] 0 0 (((7 : Int32) - (1 : Int32)) - (1 : Int32)) (.int (own_by i0 1)) = some [(0, [(.int (0 : Int32)), (.int (0 : Int32)), (.int (0 : Int32)), (.int (0 : Int32)), (.int (0 : Int32)), (.int (own_by i0 1)), (.int (own_by i0 0))])] := by
    generalize own_by i0 1 = v
    rfl
  have s1 : (1 : Int32) + (1 : Int32) = (2 : Int32) := rfl
  have w2 : wV [(0, [(.int (0 : Int32)), (.int (0 : Int32)), (.int (0 : Int32)), (.int (0 : Int32)), (.int (0 : Int32)), (.int (own_by i0 1)), (.int (own_by i0 0))])] 0 0 (((7 : Int32) - (1 : Int32)) - (2 : Int32)) (.int (own_by i0 2)) = some [(0, [(.int (0 : Int32)), (.int (0 : Int32)), (.int (0 : Int32)), (.int (0 : Int32)), (.int (own_by i0 2)), (.int (own_by i0 1)), (.int (own_by i0 0))])] := by
    generalize own_by i0 2 = v
    rfl
  have s2 : (2 : Int32) + (1 : Int32) = (3 : Int32) := rfl
  have w3 : wV [(0, [(.int (0 : Int32)), (.int (0 : Int32)), (.int (0 : Int32)), (.int (0 : Int32)), (.int (own_by i0 2)), (.int (own_by i0 1)), (.int (own_by i0 0))])] 0 0 (((7 : Int32) - (1 : Int32)) - (3 : Int32)) (.int (own_by i0 3)) = some [(0, [(.int (0 : Int32)), (.int (0 : Int32)), (.int (0 : Int32)), (.int (own_by i0 3)), (.int (own_by i0 2)), (.int (own_by i0 1)), (.int (own_by i0 0))])] := by
    generalize own_by i0 3 = v
    rfl
  have s3 : (3 : Int32) + (1 : Int32) = (4 : Int32) := rfl
  rw [own_f1e, n0, Option.bind_some, List.length_nil, own_b16, if_pos (by decide), if_pos (by decide), w0, Option.bind_some, s0, own_b16, if_pos (by decide), if_pos (by decide), w1, Option.bind_some, s1, own_b16, if_pos (by decide), if_pos (by decide), w2, Option.bind_some, s2, own_b16, if_pos (by decide), if_pos (by decide), w3, Option.bind_some, s3, own_b16, if_pos (by decide), if_neg (by decide)]
  simp only [List.map_cons, List.map_nil]
theorem own_p7 (i0 i1 : Int32) (hv : i1 &&& (7 : Int32) = (7 : Int32)) : ∃ D', f0 [] i0 i1 = some ((1 : Int32), D') := by
  have w := own_v i0
  have b0 := own_by0 i0
  have b1 := own_by1 i0
  have b2 := own_by2 i0
  have b3 := own_by3 i0
  have k0 : (0 : Int64).toInt = 0 := by decide
  have z0 : ((0 : Int32) &&& (255 : Int32)).toInt = 0 := by decide
  obtain ⟨x0, e0, t0⟩ := own_f2 [0, 0, 0, own_by i0 3, own_by i0 2, own_by i0 1, own_by i0 0] (by simp) (0 : Int64) 0 (by decide) (by omega) (by omega)
  have t0' : x0.toInt = (0 : Int64).toInt * 256 + (0 &&& (255 : Int32)).toInt := t0
  rw [z0] at t0'
  rw [k0] at t0'
  clear t0
  obtain ⟨x1, e1, t1⟩ := own_f2 [0, 0, 0, own_by i0 3, own_by i0 2, own_by i0 1, own_by i0 0] (by simp) x0 1 (by decide) (by omega) (by omega)
  have t1' : x1.toInt = x0.toInt * 256 + (0 &&& (255 : Int32)).toInt := t1
  rw [z0] at t1'
  clear t1
  obtain ⟨x2, e2, t2⟩ := own_f2 [0, 0, 0, own_by i0 3, own_by i0 2, own_by i0 1, own_by i0 0] (by simp) x1 2 (by decide) (by omega) (by omega)
  have t2' : x2.toInt = x1.toInt * 256 + (0 &&& (255 : Int32)).toInt := t2
  rw [z0] at t2'
  clear t2
  obtain ⟨x3, e3, t3⟩ := own_f2 [0, 0, 0, own_by i0 3, own_by i0 2, own_by i0 1, own_by i0 0] (by simp) x2 3 (by decide) (by omega) (by omega)
  have t3' : x3.toInt = x2.toInt * 256 + (own_by i0 3 &&& (255 : Int32)).toInt := t3
  rw [b3] at t3'
  clear t3
  obtain ⟨x4, e4, t4⟩ := own_f2 [0, 0, 0, own_by i0 3, own_by i0 2, own_by i0 1, own_by i0 0] (by simp) x3 4 (by decide) (by omega) (by omega)
  have t4' : x4.toInt = x3.toInt * 256 + (own_by i0 2 &&& (255 : Int32)).toInt := t4
  rw [b2] at t4'
  clear t4
  obtain ⟨x5, e5, t5⟩ := own_f2 [0, 0, 0, own_by i0 3, own_by i0 2, own_by i0 1, own_by i0 0] (by simp) x4 5 (by decide) (by omega) (by omega)
  have t5' : x5.toInt = x4.toInt * 256 + (own_by i0 1 &&& (255 : Int32)).toInt := t5
  rw [b1] at t5'
  clear t5
  obtain ⟨x6, e6, t6⟩ := own_f2 [0, 0, 0, own_by i0 3, own_by i0 2, own_by i0 1, own_by i0 0] (by simp) x5 6 (by decide) (by omega) (by omega)
  have t6' : x6.toInt = x5.toInt * 256 + (own_by i0 0 &&& (255 : Int32)).toInt := t6
  rw [b0] at t6'
  clear t6
  have l1 : lA [(0, ([0, 0, 0, own_by i0 3, own_by i0 2, own_by i0 1, own_by i0 0] : List Int32).map Value.int)] 0 0 = some (7 : Int32) := by rfl
  have e0' : f2 [(0, ([0, 0, 0, own_by i0 3, own_by i0 2, own_by i0 1, own_by i0 0] : List Int32).map Value.int)] (0 : Int64) 0 (0 : Int32) = some (x0, [(0, ([0, 0, 0, own_by i0 3, own_by i0 2, own_by i0 1, own_by i0 0] : List Int32).map Value.int)]) := e0
  have e1' : f2 [(0, ([0, 0, 0, own_by i0 3, own_by i0 2, own_by i0 1, own_by i0 0] : List Int32).map Value.int)] x0 0 (1 : Int32) = some (x1, [(0, ([0, 0, 0, own_by i0 3, own_by i0 2, own_by i0 1, own_by i0 0] : List Int32).map Value.int)]) := e1
  have e2' : f2 [(0, ([0, 0, 0, own_by i0 3, own_by i0 2, own_by i0 1, own_by i0 0] : List Int32).map Value.int)] x1 0 (2 : Int32) = some (x2, [(0, ([0, 0, 0, own_by i0 3, own_by i0 2, own_by i0 1, own_by i0 0] : List Int32).map Value.int)]) := e2
  have e3' : f2 [(0, ([0, 0, 0, own_by i0 3, own_by i0 2, own_by i0 1, own_by i0 0] : List Int32).map Value.int)] x2 0 (3 : Int32) = some (x3, [(0, ([0, 0, 0, own_by i0 3, own_by i0 2, own_by i0 1, own_by i0 0] : List Int32).map Value.int)]) := e3
  have e4' : f2 [(0, ([0, 0, 0, own_by i0 3, own_by i0 2, own_by i0 1, own_by i0 0] : List Int32).map Value.int)] x3 0 (4 : Int32) = some (x4, [(0, ([0, 0, 0, own_by i0 3, own_by i0 2, own_by i0 1, own_by i0 0] : List Int32).map Value.int)]) := e4
  have e5' : f2 [(0, ([0, 0, 0, own_by i0 3, own_by i0 2, own_by i0 1, own_by i0 0] : List Int32).map Value.int)] x4 0 (5 : Int32) = some (x5, [(0, ([0, 0, 0, own_by i0 3, own_by i0 2, own_by i0 1, own_by i0 0] : List Int32).map Value.int)]) := e5
  have e6' : f2 [(0, ([0, 0, 0, own_by i0 3, own_by i0 2, own_by i0 1, own_by i0 0] : List Int32).map Value.int)] x5 0 (6 : Int32) = some (x6, [(0, ([0, 0, 0, own_by i0 3, own_by i0 2, own_by i0 1, own_by i0 0] : List Int32).map Value.int)]) := e6
  have v1 : 0 ≤ i0.toInt % 4294967296 := by omega
  have v2 : i0.toInt % 4294967296 < 4294967296 := by omega
  apply own_ex
  simp only [f0, own_let, hv]
  rw [own_g7, Option.bind_some, l1, Option.bind_some, if_pos rfl, e0', Option.bind_some, e1', Option.bind_some, e2', Option.bind_some, e3', Option.bind_some, e4', Option.bind_some, e5', Option.bind_some, e6', Option.bind_some]
  dsimp only
  rw [if_neg (by decide), if_pos (Int64.toInt_inj.mp (by rw [w]; clear w b0 b1 b2 b3 e0 e1 e2 e3 e4 e5 e6; generalize i0.toInt % 4294967296 = V at *; omega))]
  simp only [Option.map_some]
theorem law_ok (i0 i1 : Int32) : ∃ D', f0 [] i0 i1 = some ((1 : Int32), D') := by
  have e3 : (i1 &&& (7 : Int32)).toInt = i1.toInt % 8 := c_mask i1 7 3 (by decide) (by decide)
  obtain ⟨p, hp⟩ := own_fin (i1 &&& (7 : Int32)) 8 (by omega) (by omega)
  match p, hp with
  | ⟨0, _⟩, hp => exact own_p0 i0 i1 hp
  | ⟨1, _⟩, hp => exact own_p1 i0 i1 hp
  | ⟨2, _⟩, hp => exact own_p2 i0 i1 hp
  | ⟨3, _⟩, hp => exact own_p3 i0 i1 hp
  | ⟨4, _⟩, hp => exact own_p4 i0 i1 hp
  | ⟨5, _⟩, hp => exact own_p5 i0 i1 hp
  | ⟨6, _⟩, hp => exact own_p6 i0 i1 hp
  | ⟨7, _⟩, hp => exact own_p7 i0 i1 hp
set_option maxRecDepth 65536 in
set_option maxHeartbeats 40000000 in
theorem comes_1 {Post : Tables → Env → Array Value → State → Outcome → State → Prop} (hpost : ∀ tb e args s v u, (limb_1_1.after args s (.returned v) u = true ∧ limb_1_2.after args s (.returned v) u = true ∧ True) → FrameEnd s (.returned v) u (Jvm.fieldLocs frame_1_writes args s ++ Jvm.arrayLocs frame_1_arrays args s ++ Jvm.staticLocs frame_1_statics s) 16 128 → Post tb e args s (.returned v) u) :
    ArmFor flags0 classFile x code maxLocals ret World_1 tables_1 room_1 Calls_1 rest_1 Pre_1 Post := by
  intro l hfl _ _ p e ha hc hk s m args below hf hA hF happ hP
  obtain ⟨hcalls, hrest, hpre⟩ := hP
  obtain ⟨-, -, -, hnamed, -, -, -, hat⟩ := (Spec.applies_iff hf).mp happ
  obtain ⟨hg, hn⟩ := and_e (Cond.before_iff.mp (show (Jvm.Cond.and given_1 narrow_1).before args s = true from hpre))
  obtain ⟨g0, hg⟩ := and_e hg
  obtain ⟨gg0, hg⟩ := and_e hg
  have gg1 := hg
  obtain ⟨w0, w1, rfl⟩ : ∃ w0 w1 : Value, args = #[w0, w1] := by
    have hs : args.size = 2 := by simpa [Cond.value, given_1] using g0
    obtain ⟨L⟩ := args
    match L, hs with
    | [w0, w1], _ => exact ⟨w0, w1, rfl⟩
  have hw := fun d (hd : d ∈ tables_1) => atoms_spec (ws := Jvm.Cond.code x code maxLocals ret :: tables_1) hat d (List.mem_cons_of_mem _ hd)
  obtain ⟨i0, ei0⟩ := is_v gg0
  obtain rfl : w0 = (.int i0) := Option.some.inj ei0
  obtain ⟨i1, ei1⟩ := is_v gg1
  obtain rfl : w1 = (.int i1) := Option.some.inj ei1
  obtain ⟨D', hlaw⟩ := law_ok i0 i1
  obtain ⟨n, o, h1, h2, h3, _, L, rfl, ⟨rfl, N, -⟩, hq⟩ := ct0 (l := l) hw hlaw s.heap tables_1 (own_ow0 s.heap) p e ha hc hk s m _ below hf ((Spec.applies_iff_loose hf).mp happ).1 ⟨rfl, State.Warmed39.refl s, rfl⟩ trivial
  exact ⟨n, _, h1, h2, h3, hpost _ _ _ _ _ _ ⟨Cond.after_iff.mpr rfl, Cond.after_iff.mpr (eq_i res_at (Term.int_eval (1)) rfl), trivial⟩ ⟨hq.1, hq.2.1, (hq.2.2.sift fun y hy => Or.inr (N y hy)).mono (by decide) (by decide)⟩⟩
theorem main_1_1 : Claimed_1_1 := comes_1 fun _ _ _ _ _ _ h hF => ⟨h.1, hF⟩
theorem main_1_2 : Claimed_1_2 := comes_1 fun _ _ _ _ _ _ h hF => ⟨h.2.1, hF⟩
end Jvm.Pilot.@@N@@
namespace Jvm.Pilot.@@N@@
open Jvm Jvm.ClassFile Sem Op Lib Jvm.Free Jvm.Stand Jvm.Pilot.@@N@@.Jvm.D
/-! MADE BY PROGRAM (witnessworld.py) out of the Statement's table words and the real class files: 9 classes; the members and pool entries that the words name. The judged class is class 1, her method 2. -/
namespace start1
open Jvm.ClassFile
def u (s : String) : CpInfo := .utf8 (stringToUtf16 s)
/-- a pool by its gaps: so many unusable entries, then the entry; so many at the end -/
def gap : Nat → List CpInfo → List CpInfo
  | 0, r => r
  | n + 1, r => .unusable :: gap n r
def poolList (es : List (Nat × CpInfo)) (last : Nat) : List CpInfo := es.foldr (fun e r => gap e.1 (e.2 :: r)) (gap last [])
def pool (es : List (Nat × CpInfo)) (last : Nat) : Array CpInfo := ⟨poolList es last⟩
def fileOf (pool : Array CpInfo) (this : Nat) (attrs : Array Attribute := #[]) (ms : Array MethodInfo := #[]) (fl : Nat := 33) (sup : Nat := 0) (ifs : Array Nat := #[]) (fds : Array FieldInfo := #[]) : ClassFile where
  minorVersion := 0
  majorVersion := 65
  constantPool := pool
  accessFlags := fl
  thisClass := this
  superClass := sup
  interfaces := ifs
  fields := fds
  methods := ms
  attributes := attrs
def plain (name : String) (sup : Option ClassId) : Class where
  name := name
  kind := .ordinary
  loader := none
  accessFlags := 33
  super := sup
  interfaces := #[]
  cf := none
  fields := #[]
  methods := #[]
  instanceTypes := #[]
  staticTypes := #[]
  resolved := #[]
  callSites := []
  init := .initialized
  statics := none
  mirror := none

def pool0 : Array CpInfo := pool [(5, u "<init>"), (0, u "()V"), (1, .class_ 10), (1, u "java/lang/Object")] 113

def k0m0 : Method := { name := "<init>", desc := "()V", sig := { parameters := [], returnType := none }, accessFlags := 1, code := none }
/-- java/lang/Object -/
def k0 : Class := { plain "java/lang/Object" none with
  accessFlags := 33
  interfaces := #[]
  cf := some (fileOf pool0 8 #[] #[{ accessFlags := 1, nameIndex := 5, descriptorIndex := 6, attributes := #[] }] 33 0 #[] #[])
  fields := #[]
  methods := #[k0m0]
  instanceTypes := #[]
  staticTypes := #[]
  resolved := Array.replicate 124 none
  statics := none }

def pool1 : Array CpInfo := pool [(2, .class_ 4), (1, u "java/lang/Object"), (0, u "<init>"), (0, u "()V"), (0, .long 256), (1, .methodref 10 11), (0, .class_ 12), (0, .nameAndType 13 14), (0, u "com/example/whorl/whorl/hpke/Bytes"), (0, u "i2osp"), (0, u "(II)[B"), (0, .methodref 16 17), (0, .class_ 18), (0, .nameAndType 19 20), (0, u "com/example/whorl/whorl/hpke/BytesI2ospPinLaw"), (0, u "step"), (0, u "(J[BI)J"), (0, .long 4294967295), (4, u "law"), (0, u "(II)Z")] 4

def k1m0 : Method := { name := "<init>", desc := "()V", sig := { parameters := [], returnType := none }, accessFlags := 2, code := none }
def k1c1 : Code := { maxStack := 4, maxLocals := 4, code := method_2_code, exceptionTable := #[], attributes := #[] }
def k1m1 : Method := { name := "step", desc := "(J[BI)J", sig := { parameters := [.long, (.array .byte), .int], returnType := some .long }, accessFlags := 10, code := some k1c1 }
def k1c2 : Code := { maxStack := 6, maxLocals := 10, code := code, exceptionTable := #[], attributes := #[] }
def k1m2 : Method := { name := "law", desc := "(II)Z", sig := { parameters := [.int, .int], returnType := some .boolean }, accessFlags := 9, code := some k1c2 }
/-- com/example/whorl/whorl/hpke/BytesI2ospPinLaw -/
def k1 : Class := { plain "com/example/whorl/whorl/hpke/BytesI2ospPinLaw" (some 0) with
  accessFlags := 49
  interfaces := #[]
  cf := some (fileOf pool1 16 #[] #[{ accessFlags := 2, nameIndex := 5, descriptorIndex := 6, attributes := #[] }, { accessFlags := 10, nameIndex := 19, descriptorIndex := 20, attributes := #[] }, { accessFlags := 9, nameIndex := 26, descriptorIndex := 27, attributes := #[] }] 49 2 #[] #[])
  fields := #[]
  methods := #[k1m0, k1m1, k1m2]
  instanceTypes := #[]
  staticTypes := #[]
  resolved := Array.replicate 32 none
  statics := none }

def pool2 : Array CpInfo := pool [(2, .class_ 4), (1, u "java/lang/Object"), (0, u "<init>"), (0, u "()V"), (13, .class_ 21), (0, u "com/example/whorl/whorl/hpke/Bytes"), (7, u "i2osp"), (0, u "(II)[B")] 6

def k2m0 : Method := { name := "<init>", desc := "()V", sig := { parameters := [], returnType := none }, accessFlags := 2, code := none }
def k2c1 : Code := { maxStack := 5, maxLocals := 4, code := prog_30_method_3_code, exceptionTable := #[], attributes := #[] }
def k2m1 : Method := { name := "i2osp", desc := "(II)[B", sig := { parameters := [.int, .int], returnType := some (.array .byte) }, accessFlags := 8, code := some k2c1 }
/-- com/example/whorl/whorl/hpke/Bytes -/
def k2 : Class := { plain "com/example/whorl/whorl/hpke/Bytes" (some 0) with
  accessFlags := 48
  interfaces := #[]
  cf := some (fileOf pool2 20 #[] #[{ accessFlags := 2, nameIndex := 5, descriptorIndex := 6, attributes := #[] }, { accessFlags := 8, nameIndex := 29, descriptorIndex := 30, attributes := #[] }] 48 2 #[] #[])
  fields := #[]
  methods := #[k2m0, k2m1]
  instanceTypes := #[]
  staticTypes := #[]
  resolved := Array.replicate 37 none
  statics := none }

def pool3 : Array CpInfo := pool [(1, u "java/lang/Cloneable"), (0, .class_ 1), (0, u "java/lang/Object"), (0, .class_ 3)] 3

/-- java/lang/Cloneable -/
def k3 : Class := { plain "java/lang/Cloneable" (some 0) with
  accessFlags := 1537
  interfaces := #[]
  cf := some (fileOf pool3 2 #[] #[] 1537 4 #[] #[])
  fields := #[]
  methods := #[]
  instanceTypes := #[]
  staticTypes := #[]
  resolved := Array.replicate 8 none
  statics := none }

def pool4 : Array CpInfo := pool [(1, u "java/io/Serializable"), (0, .class_ 1), (0, u "java/lang/Object"), (0, .class_ 3)] 3

/-- java/io/Serializable -/
def k4 : Class := { plain "java/io/Serializable" (some 0) with
  accessFlags := 1537
  interfaces := #[]
  cf := some (fileOf pool4 2 #[] #[] 1537 4 #[] #[])
  fields := #[]
  methods := #[]
  instanceTypes := #[]
  staticTypes := #[]
  resolved := Array.replicate 8 none
  statics := none }

/-- the primitive byte -/
def k5 : Class := { plain "byte" none with kind := .primitive 'B', accessFlags := 0x411 }
/-- [B -/
def k6 : Class := { plain "[B" (some 0) with kind := .array 5 .byte, interfaces := #[3, 4], accessFlags := 1041 }

/-- the primitive int -/
def k7 : Class := { plain "int" none with kind := .primitive 'I', accessFlags := 0x411 }
/-- [I -/
def k8 : Class := { plain "[I" (some 0) with kind := .array 7 .int, interfaces := #[3, 4], accessFlags := 1041 }

def heap : Heap := #[]
def classes : Array Class := #[k0, k1, k2, k3, k4, k5, k6, k7, k8]
def interned : List (Array UInt16 × Addr) := []
def slotsUsed : Nat := 0
def theMethod : MethodId := ⟨1, 2⟩
def args0 : Array Value := #[.int 5, .int 7]
def aboutOver (below : List Frame) : State where
  vm := { classes := classes, interned := interned.toArray }
  heap := heap
  slotsUsed := slotsUsed
  threads := #[{ frames := .invoking theMethod args0 :: below }]
def below0 : List Frame := [.native { method := ⟨0, 0⟩, args := #[] }]
def about1 : State := aboutOver below0
def p0 : Program := .bare "" "" ""
def e0 : Env := launch0.env 0 0 0
theorem w_frames : about1.frames = Frame.invoking theMethod args0 :: below0 := rfl
set_option maxRecDepth 65536 in
theorem w_args : argsFit about1.vm theMethod args0 = true := by decide +kernel
set_option maxRecDepth 65536 in
theorem w_heap : heapFits about1 = true := by decide +kernel
set_option maxRecDepth 65536 in
theorem w_runnable : about1.curStatus? = some .runnable := by decide +kernel
set_option maxRecDepth 65536 in
theorem w_alone : about1.alone = true := by decide +kernel
set_option maxRecDepth 65536 in
theorem w_named : about1.methodNamed? x = some theMethod := by decide +kernel
set_option maxRecDepth 65536 in
theorem w_hears : about1.hears theMethod below0 = true := by decide +kernel
set_option maxRecDepth 65536 in
theorem w_ripe : about1.ripe theMethod args0 below0 = true := by decide +kernel
theorem w_running : about1.status = .running := rfl
set_option maxRecDepth 65536 in
theorem w_room : about1.hasRoom e0.platform room_1 = true :=
  launch0.hasRoom_least _ room_1 (by decide +kernel) (by decide +kernel) (by decide +kernel) (by decide +kernel) (by decide +kernel) (by decide +kernel)
theorem allAtoms_all (ts : List Jvm.Cond) (a : Array Jvm.Value) (st : Jvm.State) : (allAtoms ts).before a st = ts.all (fun c => c.before a st) := by
  induction ts with
  | nil => rfl
  | cons c t ih =>
    show (Jvm.Cond.and c (allAtoms t)).before a st = _
    rw [Jvm.Cond.before_and, ih, List.all_cons]
def words1 : List Jvm.Cond := Jvm.Cond.code x code maxLocals ret :: tables_1
/-- a 'code' word, met by the world's own term for the bytes: nothing is compared byte by byte -/
theorem code_word {y : MethodName} {bytes : ByteArray} {mx : Nat} {rt : Option FieldType} {a : Array Value} {s : State} {m : MethodId} {meth : Method} {c : Code} (h1 : s.methodNamed? y = some m) (h2 : s.vm.method? m = some meth) (h3 : meth.code = some c) (h4 : c.code = bytes)
    (h5 : (c.maxLocals == mx && c.exceptionTable.isEmpty && decide (c.maxStack ≤ mostOperands) && decide (meth.sig.returnType = rt) && !meth.locks && decide (parseMethodDescriptor y.desc = some meth.sig)) = true) : (Jvm.Cond.code y bytes mx rt).before a s = true := by
  simp only [Bool.and_eq_true, beq_iff_eq, Bool.not_eq_true', decide_eq_true_eq] at h5
  obtain ⟨⟨⟨⟨⟨g1, g2⟩, g3⟩, g4⟩, g5⟩, g6⟩ := h5
  simp [Cond.before, Cond.holds, Cond.value, h1, h2, h3, h4, g1, g2, g3, g4, g5, g6]
def isCode : Jvm.Cond → Bool
  | .code _ _ _ _ => true
  | _ => false
theorem all_split {L : List Jvm.Cond} {P : Jvm.Cond → Bool} (h1 : L.all (fun c => isCode c || P c) = true) (h2 : ∀ c ∈ L.filter isCode, P c = true) : L.all P = true := by
  refine List.all_eq_true.mpr fun c hc => ?_
  have h := List.all_eq_true.mp h1 c hc
  rcases Bool.eq_false_or_eq_true (isCode c) with hi | hi
  · exact h2 c (List.mem_filter.mpr ⟨hc, hi⟩)
  · simpa [hi] using h
set_option maxRecDepth 65536 in
theorem w_c0 : (Jvm.Cond.code x code maxLocals ret).before args0 about1 = true := code_word (m := ⟨1, 2⟩) (meth := k1m2) (c := k1c2) (by decide +kernel) rfl rfl rfl (by decide +kernel)
set_option maxRecDepth 65536 in
theorem w_c1 : (Jvm.Cond.code ({ cls := "com/example/whorl/whorl/hpke/Bytes", name := "i2osp", desc := "(II)[B" } : Jvm.MethodName) prog_30_method_3_code (4 : Nat) (Option.some (Jvm.ClassFile.FieldType.array Jvm.ClassFile.FieldType.byte))).before args0 about1 = true := code_word (m := ⟨2, 1⟩) (meth := k2m1) (c := k2c1) (by decide +kernel) rfl rfl rfl (by decide +kernel)
set_option maxRecDepth 65536 in
theorem w_c2 : (Jvm.Cond.code ({ cls := "com/example/whorl/whorl/hpke/BytesI2ospPinLaw", name := "step", desc := "(J[BI)J" } : Jvm.MethodName) method_2_code (4 : Nat) (Option.some Jvm.ClassFile.FieldType.long)).before args0 about1 = true := code_word (m := ⟨1, 1⟩) (meth := k1m1) (c := k1c1) (by decide +kernel) rfl rfl rfl (by decide +kernel)
def codes1 : List Jvm.Cond := [Jvm.Cond.code x code maxLocals ret, Jvm.Cond.code ({ cls := "com/example/whorl/whorl/hpke/Bytes", name := "i2osp", desc := "(II)[B" } : Jvm.MethodName) prog_30_method_3_code (4 : Nat) (Option.some (Jvm.ClassFile.FieldType.array Jvm.ClassFile.FieldType.byte)), Jvm.Cond.code ({ cls := "com/example/whorl/whorl/hpke/BytesI2ospPinLaw", name := "step", desc := "(J[BI)J" } : Jvm.MethodName) method_2_code (4 : Nat) (Option.some Jvm.ClassFile.FieldType.long)]
set_option maxRecDepth 65536 in
theorem codes_eq : words1.filter isCode = codes1 := rfl
theorem w_codes : ∀ c ∈ words1.filter isCode, c.before args0 about1 = true := by
  rw [codes_eq]
  intro c hc
  simp only [codes1, List.mem_cons, List.not_mem_nil, or_false] at hc
  rcases hc with rfl | rfl | rfl
  · exact w_c0
  · exact w_c1
  · exact w_c2
set_option maxRecDepth 65536 in
theorem w_t1 : words1.all (fun c => isCode c || c.before args0 about1) = true := by decide +kernel
theorem w_tables : (allAtoms (Jvm.Cond.code x code maxLocals ret :: tables_1)).before args0 about1 = true := by
  rw [allAtoms_all]
  show words1.all (fun c => c.before args0 about1) = true
  refine all_split ?_ w_codes
  rw [w_t1]
set_option maxRecDepth 65536 in
theorem w_case : (Jvm.Cond.and given_1 narrow_1).before args0 about1 = true := by decide +kernel
theorem w_applies : (headSpec (Jvm.Cond.code x code maxLocals ret :: tables_1) room_1).applies x e0.platform about1 = true :=
  (Spec.applies_iff w_frames).mpr ⟨w_running, w_runnable, w_alone, w_named, w_hears, w_ripe, w_room, w_tables⟩
theorem atStart : AtStart classFile x code maxLocals ret World_1 tables_1 room_1 Calls_1 rest_1 Pre_1 launch0 p0 e0 about1 theMethod args0 below0 :=
  ⟨lists_1, trivial, launch0.admits_env _ _ _, launch0.least_env, fairChoices_fair.cas, fairChoices_fair.clock, w_frames, w_args, w_heap, w_applies, trivial, trivial, w_case⟩
end start1
theorem witness_1 : WitnessClaimed_1 := ⟨start1.p0, start1.e0, start1.about1, start1.theMethod, start1.args0, start1.below0, start1.atStart⟩
end Jvm.Pilot.@@N@@
