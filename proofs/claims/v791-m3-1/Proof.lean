import JvmDerived
import JvmDerived.Pilot.@@N@@Statement
import JvmDerived.Pilot.@@N@@Code
set_option linter.unusedVariables false
set_option linter.unusedSimpArgs false

namespace Jvm.Pilot.@@N@@
open Jvm Jvm.ClassFile Sem Op Lib Jvm.Free Jvm.Stand Jvm.LawKit Jvm.RoadKit Bundle Jvm.Pilot.@@N@@.Jvm.D
/-! 1. the goal of a walk, and its steps -/
section OwnGoal
variable {p : Program} {l : Launch} {e : Env} {R : Room} {s : State} {m : MethodId} {args : Array Value} {below : List Frame} {meth : Method} {c : Code} {T : State} {locs : List Loc} {cells slots : Nat}
/-- from the state S the body returns, P holds of what it leaves, and the frame is kept -/
def Gl (p : Program) (e : Env) (below : List Frame) (s : State) (kc ks : Nat) (P : Option Value → Heap → List Loc → Prop) (S : State) : Prop :=
  ∃ t o, Steps p.tables e below S t ∧ t.status = .running ∧ Ended t below o ∧ ∃ v L, o = .returned v ∧ P v t.heap L ∧ FrameEnd s o t L kc ks
variable {kc ks : Nat} {P : Option Value → Heap → List Loc → Prop}
theorem Gl.on {A B : State} (h : ∀ t, Steps p.tables e below B t → Steps p.tables e below A t) (k : Gl p e below s kc ks P B) : Gl p e below s kc ks P A := by
  obtain ⟨t, o, h1, h2⟩ := k
  exact ⟨t, o, h t h1, h2⟩
theorem own_to {tb : Tables} {A B t : State} (q : A = B) (k : Steps tb e below B t) : Steps tb e below A t := q ▸ k
theorem Gl.out (X : Stand p l e R s m args below meth c T locs cells slots) (hx : p.tables.exec = Jvm.exec) (hlk : meth.locks = false) {pc : Nat} {Ls : Array Slot} {w : Value} {t : FieldType} {i : Instr} {rest : List Value} (hret : meth.sig.returnType = some t) (hn : narrow t w = w)
    (hi : (i = .ireturn ∧ (t = .int ∨ t = .boolean ∨ t = .byte ∨ t = .char ∨ t = .short) ∧ ∃ z, w = .int z) ∨ (i = .lreturn ∧ t = .long ∧ ∃ z, w = .long z) ∨ (i = .dreturn ∧ t = .double ∧ ∃ z, w = .double z) ∨ (i = .freturn ∧ t = .float ∧ ∃ z, w = .float z) ∨ (i = .areturn ∧ t.isReference = true ∧ w.isRef = true))
    (hd : decode c.code pc = .ok (i, 1)) (hP : P (some w) T.heap locs) (hc : cells ≤ kc) (hs : slots ≤ ks) : Gl p e below s kc ks P (T.setTop (mkF m pc Ls (w :: rest))) := by
  obtain ⟨fs, hr, hrun, hended, hW, hsame⟩ := X.leave (v := some w) (fun h => by rw [hret] at h; cases h) hlk
  exact ⟨_, _, retOut X hx hret hn hi hd hr, hrun, hended, _, _, rfl, hP, ⟨_, rfl⟩, hW, hsame.mono hc hs⟩
theorem Gl.outI (X : Stand p l e R s m args below meth c T locs cells slots) (hx : p.tables.exec = Jvm.exec) (hlk : meth.locks = false) {pc : Nat} {Ls : Array Slot} {z : Int32} {rest : List Value} (hret : meth.sig.returnType = some .int)
    (hd : decode c.code pc = .ok (.ireturn, 1)) (hP : P (some (.int z)) T.heap locs) (hc : cells ≤ kc) (hs : slots ≤ ks) : Gl p e below s kc ks P (T.setTop (mkF m pc Ls (.int z :: rest))) :=
  Gl.out X hx hlk hret rfl (Or.inl ⟨rfl, Or.inl rfl, z, rfl⟩) hd hP hc hs
theorem Gl.outJ (X : Stand p l e R s m args below meth c T locs cells slots) (hx : p.tables.exec = Jvm.exec) (hlk : meth.locks = false) {pc : Nat} {Ls : Array Slot} {z : Int64} {rest : List Value} (hret : meth.sig.returnType = some .long)
    (hd : decode c.code pc = .ok (.lreturn, 1)) (hP : P (some (.long z)) T.heap locs) (hc : cells ≤ kc) (hs : slots ≤ ks) : Gl p e below s kc ks P (T.setTop (mkF m pc Ls (.long z :: rest))) :=
  Gl.out X hx hlk hret rfl (Or.inr (Or.inl ⟨rfl, rfl, z, rfl⟩)) hd hP hc hs
theorem Gl.outR (X : Stand p l e R s m args below meth c T locs cells slots) (hx : p.tables.exec = Jvm.exec) (hlk : meth.locks = false) {pc : Nat} {Ls : Array Slot} {a : Addr} {t : FieldType} {rest : List Value} (hret : meth.sig.returnType = some t) (ht : t.isReference = true)
    (hd : decode c.code pc = .ok (.areturn, 1)) (hP : P (some (.ref a)) T.heap locs) (hc : cells ≤ kc) (hs : slots ≤ ks) : Gl p e below s kc ks P (T.setTop (mkF m pc Ls (.ref a :: rest))) :=
  Gl.out X hx hlk hret (by cases t <;> first | rfl | cases ht) (Or.inr (Or.inr (Or.inr (Or.inr ⟨rfl, ht, rfl⟩)))) hd hP hc hs
theorem Gl.outN (X : Stand p l e R s m args below meth c T locs cells slots) (hx : p.tables.exec = Jvm.exec) (hlk : meth.locks = false) {pc : Nat} {Ls : Array Slot} {z : Int32} {t : FieldType} {rest : List Value} (hret : meth.sig.returnType = some t) (ht : t = .boolean ∨ t = .byte ∨ t = .char ∨ t = .short)
    (hd : decode c.code pc = .ok (.ireturn, 1)) (hP : P (some (.int (nar t z))) T.heap locs) (hc : cells ≤ kc) (hs : slots ≤ ks) : Gl p e below s kc ks P (T.setTop (mkF m pc Ls (.int z :: rest))) := by
  obtain ⟨fs, hr, hrun, hended, hW, hsame⟩ := X.leave (v := some (.int (nar t z))) (fun h => by rw [hret] at h; cases h) hlk
  exact ⟨_, _, retN X hx hret ht hd hr, hrun, hended, _, _, rfl, hP, ⟨_, rfl⟩, hW, hsame.mono hc hs⟩
theorem Gl.outV (X : Stand p l e R s m args below meth c T locs cells slots) (hx : p.tables.exec = Jvm.exec) (hlk : meth.locks = false) {pc : Nat} {Ls : Array Slot} (hret : meth.sig.returnType = none)
    (hd : decode c.code pc = .ok (.return_, 1)) (hP : P none T.heap locs) (hc : cells ≤ kc) (hs : slots ≤ ks) : Gl p e below s kc ks P (T.setTop (mkF m pc Ls [])) := by
  obtain ⟨fs, hr, hrun, hended, hW, hsame⟩ := X.leave (v := none) (fun _ => rfl) hlk
  exact ⟨_, _, X.returnOut hx hret hd hr, hrun, hended, _, _, rfl, hP, ⟨_, rfl⟩, hW, hsame.mono hc hs⟩
end OwnGoal
/-- two slots: both empty, or a long -/
def Two (a b : Slot) : Prop := (a = .unset ∧ b = .unset) ∨ ∃ z : Int64, a = .val (.long z) ∧ b = .second
theorem own_inj {α β : Type} {a b : α} {c d : β} (h : some (a, c) = some (b, d)) : a = b ∧ c = d := by cases h; exact ⟨rfl, rfl⟩
theorem own_inj1 {α : Type} {a b : α} (h : some a = some b) : a = b := by cases h; rfl
def own_let {α β : Type} (a : α) (f : α → β) : β := f a
theorem own_letE {α β : Type} {a : α} {f : α → β} {b : β} (h : own_let a f = b) : ∃ x, a = x ∧ f x = b := ⟨a, rfl, h⟩
theorem own_bind {α β : Type} {o : Option α} {f : α → Option β} {b : β} (h : o.bind f = some b) : ∃ x, o = some x ∧ f x = some b := by
  cases o with
  | none => cases h
  | some x => exact ⟨x, rfl, h⟩
/-! 2. what the law has made: a list of objects, each with its kind and its values; a reference is a place in that list -/
abbrev Hp := List (Nat × List Value)
abbrev Kt := Nat → FieldType × List (String × String)
def sh (n0 : Nat) : Value → Value
  | .ref k => .ref (n0 + k)
  | v => v
def gV (D : Hp) (a t i : Nat) : Option Value := (D[a]?).bind fun ob => if ob.1 = t then ob.2[i]? else none
def asI : Value → Option Int32
  | .int x => some x
  | _ => none
def asJ : Value → Option Int64
  | .long x => some x
  | _ => none
def asR : Value → Option Nat
  | .ref x => some x
  | _ => none
def gI (D : Hp) (a t i : Nat) : Option Int32 := (gV D a t i).bind asI
def gJ (D : Hp) (a t i : Nat) : Option Int64 := (gV D a t i).bind asJ
def gR (D : Hp) (a t i : Nat) : Option Nat := (gV D a t i).bind asR
def ck (D : Hp) (a t : Nat) : Option Nat := (D[a]?).bind fun ob => if ob.1 = t then some t else none
def pV (D : Hp) (a t i : Nat) (v : Value) : Option Hp := (D[a]?).bind fun ob => if ob.1 = t then (if i < ob.2.length then some (D.set a (t, ob.2.set i v)) else none) else none
def rV (D : Hp) (a t : Nat) (j : Int32) : Option Value := (D[a]?).bind fun ob => if ob.1 = t then (if j < 0 then none else ob.2[j.toNatClampNeg]?) else none
def rI (D : Hp) (a t : Nat) (j : Int32) : Option Int32 := (rV D a t j).bind asI
def rJ (D : Hp) (a t : Nat) (j : Int32) : Option Int64 := (rV D a t j).bind asJ
def wV (D : Hp) (a t : Nat) (j : Int32) (v : Value) : Option Hp := (D[a]?).bind fun ob => if ob.1 = t then (if j < 0 then none else if j.toNatClampNeg < ob.2.length then some (D.set a (t, ob.2.set j.toNatClampNeg v)) else none) else none
def lA (D : Hp) (a t : Nat) : Option Int32 := (D[a]?).bind fun ob => if ob.1 = t then some ob.2.length.toInt32 else none
def nA (D : Hp) (t : Nat) (n : Int32) (cap : Nat) (z : Value) : Option Hp := if n < 0 then none else if n.toNatClampNeg ≤ cap then some (D ++ [(t, List.replicate n.toNatClampNeg z)]) else none
def cA' (D : Hp) (a t cap : Nat) : Option Hp := (D[a]?).bind fun ob => if ob.1 = t then (if ob.2.length ≤ cap then some (D ++ [(t, ob.2)]) else none) else none
def Ob1 (K : Kt) (Z : State) (h : Heap) (n0 a t : Nat) (vs : List Value) : Prop :=
  (∀ ty, (K t).1 = .array ty → Exa Z h a ("[" ++ ty.toString) ∧ ∃ c : Cell, Arr Z h a c ty ∧ c.slots = (vs.map (sh n0)).toArray ∧ vs.length < 2 ^ 31 ∧ ∀ v ∈ vs, fits ty v = true) ∧
  (∀ C, (K t).1 = .object C → Exa Z h a C ∧ ∀ (i : Nat) (f d : String), (K t).2[i]? = some (f, d) → ∃ v : Value, vs[i]? = some v ∧ Fld Z h a C f d (sh n0 v))
def Ow (K : Kt) (Z : State) (h : Heap) (n0 : Nat) (D : Hp) : Prop := h.size = n0 + D.length ∧ ∀ (k t : Nat) (vs : List Value), D[k]? = some (t, vs) → Ob1 K Z h n0 (n0 + k) t vs
def Lay (K : Kt) (Z : State) (a0 : Array Value) : Prop := ∀ t C, (K t).1 = .object C → (∀ q ∈ (K t).2, Laid Z a0 C C q.1 q.2 ∧ ∃ ty, parseFieldDescriptor q.2 = some ty) ∧ ((K t).2.map Prod.fst).Nodup
section OwnHeap
variable {K : Kt} {Z : State} {h h' : Heap} {n0 : Nat} {D D' : Hp} {a t i : Nat} {v : Value} {j : Int32} {C f d : String} {ty : FieldType}
theorem gV_e (hg : gV D a t i = some v) : ∃ vs, D[a]? = some (t, vs) ∧ vs[i]? = some v := by
  obtain ⟨⟨t', vs⟩, h1, h2⟩ := own_bind hg
  by_cases q : t' = t
  · subst q; rw [if_pos rfl] at h2; exact ⟨vs, h1, h2⟩
  · rw [if_neg q] at h2; cases h2
theorem gI_e {x : Int32} (hg : gI D a t i = some x) : gV D a t i = some (.int x) := by
  obtain ⟨w, h1, h2⟩ := own_bind hg
  cases w <;> cases h2; exact h1
theorem gJ_e {x : Int64} (hg : gJ D a t i = some x) : gV D a t i = some (.long x) := by
  obtain ⟨w, h1, h2⟩ := own_bind hg
  cases w <;> cases h2; exact h1
theorem gR_e {x : Nat} (hg : gR D a t i = some x) : gV D a t i = some (.ref x) := by
  obtain ⟨w, h1, h2⟩ := own_bind hg
  cases w <;> cases h2; exact h1
theorem ck_e {q : Nat} (hg : ck D a t = some q) : ∃ vs, D[a]? = some (t, vs) := by
  obtain ⟨⟨t', vs⟩, h1, h2⟩ := own_bind hg
  by_cases q : t' = t
  · subst q; exact ⟨vs, h1⟩
  · rw [if_neg q] at h2; cases h2
theorem rV_e (hg : rV D a t j = some v) : ∃ vs, D[a]? = some (t, vs) ∧ ¬ j < 0 ∧ vs[j.toNatClampNeg]? = some v := by
  obtain ⟨⟨t', vs⟩, h1, h2⟩ := own_bind hg
  by_cases q : t' = t
  · subst q; rw [if_pos rfl] at h2
    by_cases r : j < 0
    · rw [if_pos r] at h2; cases h2
    · rw [if_neg r] at h2; exact ⟨vs, h1, r, h2⟩
  · rw [if_neg q] at h2; cases h2
theorem rI_e {x : Int32} (hg : rI D a t j = some x) : rV D a t j = some (.int x) := by
  obtain ⟨w, h1, h2⟩ := own_bind hg
  cases w <;> cases h2; exact h1
theorem rJ_e {x : Int64} (hg : rJ D a t j = some x) : rV D a t j = some (.long x) := by
  obtain ⟨w, h1, h2⟩ := own_bind hg
  cases w <;> cases h2; exact h1
theorem wV_e (hg : wV D a t j v = some D') : ∃ vs, D[a]? = some (t, vs) ∧ ¬ j < 0 ∧ j.toNatClampNeg < vs.length ∧ D' = D.set a (t, vs.set j.toNatClampNeg v) := by
  obtain ⟨⟨t', vs⟩, h1, h2⟩ := own_bind hg
  by_cases q : t' = t
  · subst q; rw [if_pos rfl] at h2
    by_cases r : j < 0
    · rw [if_pos r] at h2; cases h2
    · rw [if_neg r] at h2
      by_cases u : j.toNatClampNeg < vs.length
      · rw [if_pos u] at h2; cases h2; exact ⟨vs, h1, r, u, rfl⟩
      · rw [if_neg u] at h2; cases h2
  · rw [if_neg q] at h2; cases h2
theorem pV_e (hg : pV D a t i v = some D') : ∃ vs, D[a]? = some (t, vs) ∧ i < vs.length ∧ D' = D.set a (t, vs.set i v) := by
  obtain ⟨⟨t', vs⟩, h1, h2⟩ := own_bind hg
  by_cases q : t' = t
  · subst q; rw [if_pos rfl] at h2
    by_cases u : i < vs.length
    · rw [if_pos u] at h2; cases h2; exact ⟨vs, h1, u, rfl⟩
    · rw [if_neg u] at h2; cases h2
  · rw [if_neg q] at h2; cases h2
theorem cA_e {cap : Nat} (hg : cA' D a t cap = some D') : ∃ vs, D[a]? = some (t, vs) ∧ vs.length ≤ cap ∧ D' = D ++ [(t, vs)] := by
  obtain ⟨⟨t', vs⟩, h1, h2⟩ := own_bind hg
  by_cases q : t' = t
  · subst q; rw [if_pos rfl] at h2
    by_cases u : vs.length ≤ cap
    · rw [if_pos u] at h2; cases h2; exact ⟨vs, h1, u, rfl⟩
    · rw [if_neg u] at h2; cases h2
  · rw [if_neg q] at h2; cases h2
theorem lA_e {x : Int32} (hg : lA D a t = some x) : ∃ vs, D[a]? = some (t, vs) ∧ x = vs.length.toInt32 := by
  obtain ⟨⟨t', vs⟩, h1, h2⟩ := own_bind hg
  by_cases q : t' = t
  · subst q; rw [if_pos rfl] at h2; cases h2; exact ⟨vs, h1, rfl⟩
  · rw [if_neg q] at h2; cases h2
theorem Ow.fld (O : Ow K Z h n0 D) (hg : gV D a t i = some v) (hK : (K t).1 = .object C) (hf : (K t).2[i]? = some (f, d)) : Fld Z h (n0 + a) C f d (sh n0 v) := by
  obtain ⟨vs, h1, h2⟩ := gV_e hg
  obtain ⟨w, h3, h4⟩ := ((O.2 a t vs h1).2 C hK).2 i f d hf
  cases h2.symm.trans h3; exact h4
theorem Ow.fld0 (O : Ow K Z h n0 D) (hg : pV D a t i v = some D') (hK : (K t).1 = .object C) (hf : (K t).2[i]? = some (f, d)) : ∃ w, Fld Z h (n0 + a) C f d w := by
  obtain ⟨vs, h1, h2, -⟩ := pV_e hg
  obtain ⟨w, h3, h4⟩ := ((O.2 a t vs h1).2 C hK).2 i f d hf
  exact ⟨_, h4⟩
theorem Ow.exa (O : Ow K Z h n0 D) {vs : List Value} (hg : D[a]? = some (t, vs)) (hK : (K t).1 = .object C) : Exa Z h (n0 + a) C := ((O.2 a t vs hg).2 C hK).1
theorem Ow.exaC (O : Ow K Z h n0 D) {q : Nat} (hg : ck D a t = some q) (hK : (K t).1 = .object C) : Exa Z h (n0 + a) C := by
  obtain ⟨vs, h1⟩ := ck_e hg; exact O.exa h1 hK
theorem Ow.exaP (O : Ow K Z h n0 D) (hg : pV D a t i v = some D') (hK : (K t).1 = .object C) : Exa Z h (n0 + a) C := by
  obtain ⟨vs, h1, -⟩ := pV_e hg; exact O.exa h1 hK
theorem sh_len (vs : List Value) : ((vs.map (sh n0)).toArray).size = vs.length := by simp
/-- the array at a, its cell, that the place j lies in it and what it holds -/
theorem Ow.arrR (O : Ow K Z h n0 D) (hg : rV D a t j = some v) (hK : (K t).1 = .array ty) : ∃ c : Cell, Arr Z h (n0 + a) c ty ∧ ¬ (j < 0 ∨ c.slots.size ≤ j.toNatClampNeg) ∧ c.slots[j.toNatClampNeg]? = some (sh n0 v) := by
  obtain ⟨vs, h1, h2, h3⟩ := rV_e hg
  obtain ⟨-, c, A, hs, -, -⟩ := (O.2 a t vs h1).1 ty hK
  have hlt := (List.getElem?_eq_some_iff.mp h3).1
  refine ⟨c, A, ?_, ?_⟩
  · rw [hs, sh_len]; intro q; rcases q with q | q
    · exact h2 q
    · omega
  · rw [hs]; simp [h3]
theorem Ow.arrL (O : Ow K Z h n0 D) {x : Int32} (hg : lA D a t = some x) (hK : (K t).1 = .array ty) : ∃ c : Cell, Arr Z h (n0 + a) c ty ∧ c.slots.size.toInt32 = x := by
  obtain ⟨vs, h1, h2⟩ := lA_e hg
  obtain ⟨-, c, A, hs, -, -⟩ := (O.2 a t vs h1).1 ty hK
  exact ⟨c, A, by rw [hs, sh_len, h2]⟩
theorem Ow.arrW (O : Ow K Z h n0 D) (hg : wV D a t j v = some D') (hK : (K t).1 = .array ty) : ∃ c : Cell, Arr Z h (n0 + a) c ty ∧ ¬ (j < 0 ∨ c.slots.size ≤ j.toNatClampNeg) := by
  obtain ⟨vs, h1, h2, h3, -⟩ := wV_e hg
  obtain ⟨-, c, A, hs, -, -⟩ := (O.2 a t vs h1).1 ty hK
  refine ⟨c, A, ?_⟩
  rw [hs, sh_len]; intro q; rcases q with q | q
  · exact h2 q
  · omega
theorem own_get_set {k : Nat} {ob ob' : Nat × List Value} (hk : (D.set a ob)[k]? = some ob') : (k = a ∧ ob' = ob ∧ a < D.length) ∨ (k ≠ a ∧ D[k]? = some ob') := by
  by_cases q : k = a
  · subst q
    rw [List.getElem?_set] at hk
    simp only [if_true] at hk
    by_cases r : k < D.length
    · rw [if_pos r] at hk; cases hk; exact Or.inl ⟨rfl, rfl, r⟩
    · rw [if_neg r] at hk; cases hk
  · rw [List.getElem?_set_ne (Ne.symm q)] at hk; exact Or.inr ⟨q, hk⟩
theorem Ob1.other {x y k : Nat} {vs : List Value} {w : Value} {sl : Nat} (B : Ob1 K Z h n0 x k vs) (W : Wr h h' y sl w) (hne : x ≠ y) : Ob1 K Z h' n0 x k vs := by
  refine ⟨fun ty hK => ?_, fun C hK => ?_⟩
  · obtain ⟨E, c, A, r⟩ := B.1 ty hK
    exact ⟨E.wr W, c, A.other W hne, r⟩
  · obtain ⟨E, F⟩ := B.2 C hK
    refine ⟨E.wr W, fun i f d hi => ?_⟩
    obtain ⟨v, h1, h2⟩ := F i f d hi
    exact ⟨v, h1, h2.other W (Or.inl hne)⟩
theorem Ow.st (O : Ow K Z h n0 D) (hg : wV D a t j v = some D') (hK : (K t).1 = .array ty) (hfit : fits ty v = true) (W : Wr h h' (n0 + a) j.toNatClampNeg (sh n0 v)) : Ow K Z h' n0 D' := by
  obtain ⟨vs, h1, h2, h3, rfl⟩ := wV_e hg
  refine ⟨by rw [W.size, O.1, List.length_set], fun k t' vs' hk => ?_⟩
  rcases own_get_set hk with ⟨rfl, e, -⟩ | ⟨hne, hk'⟩
  · cases e
    refine ⟨fun ty' hK' => ?_, fun C hK' => ?_⟩
    · cases hK.symm.trans hK'
      obtain ⟨E, c, A, hs, hl, hf⟩ := (O.2 _ _ vs h1).1 _ hK
      refine ⟨E.wr W, _, A.same W, ?_, by rw [List.length_set]; exact hl, fun w hw => ?_⟩
      · simp only [Cell.setSlot, hs]
        rw [List.map_set]
        simp
      · rcases List.mem_or_eq_of_mem_set hw with q | q
        · exact hf w q
        · rw [q]; exact hfit
    · rw [hK] at hK'; cases hK'
  · exact (O.2 k t' vs' hk').other W (by omega)
theorem Ow.put {a0 : Array Value} (O : Ow K Z h n0 D) (hL : Lay K Z a0) (hg : pV D a t i v = some D') (hK : (K t).1 = .object C) (hf : (K t).2[i]? = some (f, d)) (W : Wr h h' (n0 + a) (Jvm.RoadKit.slotOf Z C f d) (sh n0 v)) : Ow K Z h' n0 D' := by
  obtain ⟨vs, h1, h3, rfl⟩ := pV_e hg
  refine ⟨by rw [W.size, O.1, List.length_set], fun k t' vs' hk => ?_⟩
  rcases own_get_set hk with ⟨rfl, e, -⟩ | ⟨hne, hk'⟩
  · cases e
    refine ⟨fun ty' hK' => (by rw [hK] at hK'; cases hK'), fun C' hK' => ?_⟩
    cases hK.symm.trans hK'
    obtain ⟨E, F⟩ := (O.2 _ _ vs h1).2 _ hK
    refine ⟨E.wr W, fun i' f' d' hi' => ?_⟩
    obtain ⟨w, g1, g2⟩ := F i' f' d' hi'
    by_cases q : i' = i
    · subst q
      cases hf.symm.trans hi'
      exact ⟨v, by rw [List.getElem?_set]; simp [h3], g2.same W⟩
    · refine ⟨w, by rw [List.getElem?_set_ne (Ne.symm q)]; exact g1, g2.other W (Or.inr ?_)⟩
      obtain ⟨hl, hn⟩ := hL t C hK
      obtain ⟨l1, ty1, p1⟩ := hl _ (List.mem_of_getElem? hf)
      obtain ⟨l2, ty2, p2⟩ := hl _ (List.mem_of_getElem? hi')
      refine slot_ne l2 l1 (fun e => q ?_) p2 p1
      have m1 : ((K t).2.map Prod.fst)[i]? = some f := by rw [List.getElem?_map, hf]; rfl
      have m2 : ((K t).2.map Prod.fst)[i']? = some f' := by rw [List.getElem?_map, hi']; rfl
      obtain ⟨b1, c1⟩ := List.getElem?_eq_some_iff.mp m1
      obtain ⟨b2, c2⟩ := List.getElem?_eq_some_iff.mp m2
      exact (List.getElem_inj hn).mp (by rw [c1, c2]; exact e)
  · exact (O.2 k t' vs' hk').other W (by omega)
theorem Ob1.ext {x k : Nat} {vs : List Value} (B : Ob1 K Z h n0 x k vs) (E : Ext h h') : Ob1 K Z h' n0 x k vs := by
  refine ⟨fun ty hK => ?_, fun C hK => ?_⟩
  · obtain ⟨F, c, A, r⟩ := B.1 ty hK
    exact ⟨F.ext E, c, A.ext E, r⟩
  · obtain ⟨X, F⟩ := B.2 C hK
    refine ⟨X.ext E, fun i f d hi => ?_⟩
    obtain ⟨v, h1, h2⟩ := F i f d hi
    exact ⟨v, h1, h2.ext E⟩
theorem Ow.push {vs : List Value} (O : Ow K Z h n0 D) (E : Ext h h') (hsz : h'.size = h.size + 1) (B : Ob1 K Z h' n0 (n0 + D.length) t vs) : Ow K Z h' n0 (D ++ [(t, vs)]) := by
  refine ⟨by rw [hsz, O.1, List.length_append]; rfl, fun k t' vs' hk => ?_⟩
  by_cases q : k < D.length
  · rw [List.getElem?_append_left q] at hk; exact (O.2 k t' vs' hk).ext E
  · rw [List.getElem?_append_right (Nat.le_of_not_lt q)] at hk
    have e : k - D.length = 0 := by
      have := (List.getElem?_eq_some_iff.mp hk).1
      simp only [List.length_singleton] at this; omega
    rw [e] at hk
    have hk2 : (t, vs) = (t', vs') := Option.some.inj hk
    cases hk2
    have : k = D.length := by omega
    rw [this]; exact B
theorem sh_default (ty : FieldType) : sh n0 (defaultValue ty) = defaultValue ty := by cases ty <;> rfl
theorem own_ow0 (h : Heap) : Ow K Z h h.size [] := ⟨by simp, fun k t vs hk => by simp at hk⟩
end OwnHeap
/-! 3. the laws of the library, over that list -/
section OwnLaws
variable {p : Program} {l : Launch} {e : Env} {R : Room} {s : State} {m : MethodId} {args : Array Value} {below : List Frame} {meth : Method} {c : Code} {T : State} {locs : List Loc} {cells slots : Nat} {Z : State} {a0 : Array Value} {h : Heap} {K : Kt} {n0 : Nat} {D D' : Hp} {a t : Nat}
theorem ldW (X : Stand p l e R s m args below meth c T locs cells slots) (hx : p.tables.exec = Jvm.exec) (hZ : Z.Warmed39 s.vm) (eT : T.heap = h) (O : Ow K Z h n0 D) {j : Int32} {x : Int32} (hg : rI D a t j = some x) (hK : (K t).1 = .array .int)
    {g : JFrame} (hgm : g.method = m) {rest : List Value} (hs : g.stack = .int j :: .ref (n0 + a) :: rest) (hd : decode c.code g.pc = .ok (.iaload, 1)) (target : State)
    (hr : Steps p.tables e below (T.setTop { g with pc := g.pc + 1, stack := .int x :: rest }) target) : Steps p.tables e below (T.setTop g) target := by
  obtain ⟨cl, A, hin, hat⟩ := O.arrR (rI_e hg) hK
  exact X.iaload hx (v := .int x) (by rw [eT]; exact A.1) (State.isArrayOf_alike hZ.alike A.2.1) A.2.2 hin hat hgm hs hd target hr
theorem ldB (X : Stand p l e R s m args below meth c T locs cells slots) (hx : p.tables.exec = Jvm.exec) (hZ : Z.Warmed39 s.vm) (eT : T.heap = h) (O : Ow K Z h n0 D) {j : Int32} {x : Int32} (hg : rI D a t j = some x) (hK : (K t).1 = .array .byte)
    {g : JFrame} (hgm : g.method = m) {rest : List Value} (hs : g.stack = .int j :: .ref (n0 + a) :: rest) (hd : decode c.code g.pc = .ok (.baload, 1)) (target : State)
    (hr : Steps p.tables e below (T.setTop { g with pc := g.pc + 1, stack := .int x :: rest }) target) : Steps p.tables e below (T.setTop g) target := by
  obtain ⟨cl, A, hin, hat⟩ := O.arrR (rI_e hg) hK
  exact X.baloadBytes hx (v := .int x) (by rw [eT]; exact A.1) (State.isArrayOf_alike hZ.alike A.2.1) A.2.2 hin hat hgm hs hd target hr
theorem ldJ (X : Stand p l e R s m args below meth c T locs cells slots) (hx : p.tables.exec = Jvm.exec) (hZ : Z.Warmed39 s.vm) (eT : T.heap = h) (O : Ow K Z h n0 D) {j : Int32} {x : Int64} (hg : rJ D a t j = some x) (hK : (K t).1 = .array .long)
    {g : JFrame} (hgm : g.method = m) {rest : List Value} (hs : g.stack = .int j :: .ref (n0 + a) :: rest) (hd : decode c.code g.pc = .ok (.laload, 1)) (target : State)
    (hr : Steps p.tables e below (T.setTop { g with pc := g.pc + 1, stack := .long x :: rest }) target) : Steps p.tables e below (T.setTop g) target := by
  obtain ⟨cl, A, hin, hat⟩ := O.arrR (rJ_e hg) hK
  exact X.laload hx (v := .long x) (by rw [eT]; exact A.1) (State.isArrayOf_alike hZ.alike A.2.1) A.2.2 hin hat hgm hs hd target hr
theorem lenW' (X : Stand p l e R s m args below meth c T locs cells slots) (hx : p.tables.exec = Jvm.exec) (hZ : Z.Warmed39 s.vm) (eT : T.heap = h) (O : Ow K Z h n0 D) {x : Int32} (hg : lA D a t = some x) {ty : FieldType} (hK : (K t).1 = .array ty)
    {g : JFrame} (hgm : g.method = m) {rest : List Value} (hs : g.stack = .ref (n0 + a) :: rest) (hd : decode c.code g.pc = .ok (.arraylength, 1)) (target : State)
    (hr : Steps p.tables e below (T.setTop { g with pc := g.pc + 1, stack := .int x :: rest }) target) : Steps p.tables e below (T.setTop g) target := by
  obtain ⟨cl, A, hl⟩ := O.arrL hg hK
  subst hl
  exact X.arraylength hx (by rw [eT]; exact A.1) (State.isArrayOf_alike hZ.alike A.2.1) hgm hs hd target hr
theorem stIW (X : Stand p l e R s m args below meth c T locs cells slots) (hx : p.tables.exec = Jvm.exec) (hZ : Z.Warmed39 s.vm) (eT : T.heap = h) (O : Ow K Z h n0 D) (N : Fr n0 locs) {j x : Int32} (hg : wV D a t j (.int x) = some D') (hK : (K t).1 = .array .int)
    {g : JFrame} (hgm : g.method = m) {rest : List Value} (hs : g.stack = .int x :: .int j :: .ref (n0 + a) :: rest) (hd : decode c.code g.pc = .ok (.iastore, 1)) :
    ∃ T' h' L, Stand p l e R s m args below meth c T' L cells slots ∧ T'.heap = h' ∧ Ow K Z h' n0 D' ∧ Fr n0 L ∧ ∀ target, Steps p.tables e below (T'.setTop { g with pc := g.pc + 1, stack := rest }) target → Steps p.tables e below (T.setTop g) target := by
  obtain ⟨cl, A, hin⟩ := O.arrW hg hK
  obtain ⟨T', h', X', e', W, st⟩ := stI X hx hZ eT A hin hgm hs hd
  exact ⟨T', h', _, X', e', O.st hg hK rfl W, Fr.snoc X' N (Nat.le_add_right _ _), st⟩
theorem stBW (X : Stand p l e R s m args below meth c T locs cells slots) (hx : p.tables.exec = Jvm.exec) (hZ : Z.Warmed39 s.vm) (eT : T.heap = h) (O : Ow K Z h n0 D) (N : Fr n0 locs) {j x : Int32} (hg : wV D a t j (.int x.toInt8.toInt32) = some D') (hK : (K t).1 = .array .byte)
    {g : JFrame} (hgm : g.method = m) {rest : List Value} (hs : g.stack = .int x :: .int j :: .ref (n0 + a) :: rest) (hd : decode c.code g.pc = .ok (.bastore, 1)) :
    ∃ T' h' L, Stand p l e R s m args below meth c T' L cells slots ∧ T'.heap = h' ∧ Ow K Z h' n0 D' ∧ Fr n0 L ∧ ∀ target, Steps p.tables e below (T'.setTop { g with pc := g.pc + 1, stack := rest }) target → Steps p.tables e below (T.setTop g) target := by
  obtain ⟨cl, A, hin⟩ := O.arrW hg hK
  obtain ⟨T', h', X', e', W, st⟩ := stB X hx hZ eT A hin hgm hs hd
  exact ⟨T', h', _, X', e', O.st hg hK (fits_nar_byte _) W, Fr.snoc X' N (Nat.le_add_right _ _), st⟩
theorem stJW (X : Stand p l e R s m args below meth c T locs cells slots) (hx : p.tables.exec = Jvm.exec) (hZ : Z.Warmed39 s.vm) (eT : T.heap = h) (O : Ow K Z h n0 D) (N : Fr n0 locs) {j : Int32} {x : Int64} (hg : wV D a t j (.long x) = some D') (hK : (K t).1 = .array .long)
    {g : JFrame} (hgm : g.method = m) {rest : List Value} (hs : g.stack = .long x :: .int j :: .ref (n0 + a) :: rest) (hd : decode c.code g.pc = .ok (.lastore, 1)) :
    ∃ T' h' L, Stand p l e R s m args below meth c T' L cells slots ∧ T'.heap = h' ∧ Ow K Z h' n0 D' ∧ Fr n0 L ∧ ∀ target, Steps p.tables e below (T'.setTop { g with pc := g.pc + 1, stack := rest }) target → Steps p.tables e below (T.setTop g) target := by
  obtain ⟨cl, A, hin⟩ := O.arrW hg hK
  obtain ⟨T', h', X', e', W, st⟩ := stJ X hx hZ eT A hin hgm hs hd
  exact ⟨T', h', _, X', e', O.st hg hK rfl W, Fr.snoc X' N (Nat.le_add_right _ _), st⟩
theorem putW (X : Stand p l e R s m args below meth c T locs cells slots) (hx : p.tables.exec = Jvm.exec) (hZ : Z.Warmed39 s.vm) {own C f d : String} {index kk i : Nat} {ty : FieldType} (hown : s.vm.findClass own = some m.cls) (w : (Cond.fieldLink own index C f d).before a0 Z = true) (hL : Lay K Z a0)
    (eT : T.heap = h) (O : Ow K Z h n0 D) (N : Fr n0 locs) {v : Value} (hg : pV D a t i v = some D') (hK : (K t).1 = .object C) (hf : (K t).2[i]? = some (f, d)) (L : (Cond.lays C C f d).before a0 Z = true ∨ ((Cond.laysFinal C C f d).before a0 Z = true ∧ own = C ∧ meth.name = "<init>")) (wi : (Cond.instantiable C kk).before a0 Z = true)
    (hty : parseFieldDescriptor d = some ty) (hn : narrow ty (sh n0 v) = sh n0 v) (hfit : fits ty (sh n0 v) = true) {g : JFrame} (hgm : g.method = m) {rest : List Value} (hs : g.stack = sh n0 v :: .ref (n0 + a) :: rest) (hd : decode c.code g.pc = .ok (.putfield index, 3)) :
    ∃ T' h' L, Stand p l e R s m args below meth c T' L cells slots ∧ T'.heap = h' ∧ Ow K Z h' n0 D' ∧ Fr n0 L ∧ ∀ target, Steps p.tables e below (T'.setTop { g with pc := g.pc + 3, stack := rest }) target → Steps p.tables e below (T.setTop g) target := by
  obtain ⟨old, F⟩ := O.fld0 hg hK hf
  obtain ⟨T', h', X', e', W, st⟩ := putF X hx hZ hown (host := "") (Or.inl w) Via.refl eT F (O.exaP hg hK) L wi hty hn hfit hgm hs hd
  exact ⟨T', h', _, X', e', O.put hL hg hK hf W, Fr.snoc X' N (Nat.le_add_right _ _), st⟩
theorem newW (X : Stand p l e R s m args below meth c T locs cells slots) (hx : p.tables.exec = Jvm.exec) (hZ : Z.Warmed39 s.vm) {own C : String} {index n : Nat} (hown : s.vm.findClass own = some m.cls) (w : (Cond.classLink own index C).before a0 Z = true) (wi : (Cond.instantiable C n).before a0 Z = true) (wz : (Cond.initialized C).before a0 Z = true) (hL : Lay K Z a0) (eT : T.heap = h) (O : Ow K Z h n0 D)
    (hK : (K t).1 = .object C) {ds : List Value} (hds : ∀ q ∈ (K t).2.zipIdx, ∃ ty, parseFieldDescriptor q.1.2 = some ty ∧ ds[q.2]? = some (defaultValue ty)) {g : JFrame} (hg : g.method = m) (hd : decode c.code g.pc = .ok (.new index, 3)) (hc : cells + 1 ≤ R.cells) (hl : slots + n ≤ R.slots) :
    ∃ T' h', Stand p l e R s m args below meth c T' locs (cells + 1) (slots + n) ∧ T'.heap = h' ∧ Ow K Z h' n0 (D ++ [(t, ds)]) ∧ ∀ target, Steps p.tables e below (T'.setTop { g with pc := g.pc + 3, stack := .ref (n0 + D.length) :: g.stack }) target → Steps p.tables e below (T.setTop g) target := by
  obtain ⟨vm', cC, kC, h1, h2, h3, h4, X', st⟩ := X.newCold hx hown (mv hZ w) (mv hZ wi) (mv hZ wz) hg hd hc hl
  subst eT
  rw [hZ.alike.findClass] at h1
  obtain ⟨kZ, z1, -⟩ := Vm.findClass_spec h1
  obtain ⟨k', z2, z3⟩ := hZ.alike.2.2 _ _ z1
  cases h2.symm.trans z2
  have ei : kC.instanceTypes = kZ.instanceTypes := by rw [z3]
  have hN : (T.heap.push { cls := cC, slots := kC.instanceTypes.map defaultValue, vm := .none })[T.heap.size]? = some { cls := cC, slots := kC.instanceTypes.map defaultValue, vm := .none } := by simp
  have E : Ext T.heap (T.heap.push { cls := cC, slots := kC.instanceTypes.map defaultValue, vm := .none }) := ⟨by simp, fun a c h => by
    rw [Array.getElem?_push_lt (Array.getElem?_eq_some_iff.mp h).1]; exact (Array.getElem?_eq_getElem _).symm.trans h⟩
  have hsz := O.1
  refine ⟨_, _, X', rfl, O.push E (by simp) ⟨fun ty hK' => (by rw [hK] at hK'; cases hK'), fun C' hK' => ?_⟩, by rw [← hsz]; exact st⟩
  cases hK.symm.trans hK'
  rw [← hsz]
  refine ⟨⟨_, kZ, hN, h1, z1, rfl, fun _ => by simp [ei]⟩, fun i f d hi => ?_⟩
  obtain ⟨ty, t1, t2⟩ := hds ((f, d), i) (List.mem_zipIdx_iff_getElem?.mpr hi)
  refine ⟨_, t2, ?_⟩
  rw [sh_default]
  obtain ⟨c1, k1, cf, kf, i', f', a1, a2, a3, a4, a5, a6, -⟩ := ((hL t C hK).1 _ (List.mem_of_getElem? hi)).1.spec
  cases h1.symm.trans a1
  cases z1.symm.trans a2
  exact ⟨_, cf, kf, i', f', hN, a3, a4, by simp, rfl, a5, by simp [ei, a6, (State.fieldFound?_type a3 t1).2]⟩
theorem newAW (X : Stand p l e R s m args below meth c T locs cells slots) (hx : p.tables.exec = Jvm.exec) (hZ : Z.Warmed39 s.vm) {aty : ArrayType} (w : (Cond.arrayClass (newarray.typeOf aty)).before a0 Z = true) (eT : T.heap = h) (O : Ow K Z h n0 D) (hK : (K t).1 = .array (newarray.typeOf aty))
    {n : Int32} {cap : Nat} {z : Value} (hz : z = defaultValue (newarray.typeOf aty)) (hn : nA D t n cap z = some D') {g : JFrame} (hg : g.method = m) (hd : decode c.code g.pc = .ok (.newarray aty, 2)) {rest : List Value} (hs : g.stack = .int n :: rest)
    (hb : cap * 8 ≤ 536870912) (hc : cells + 1 ≤ R.cells) (hl : slots + cap ≤ R.slots) :
    ∃ T' h', Stand p l e R s m args below meth c T' locs (cells + 1) (slots + cap) ∧ T'.heap = h' ∧ Ow K Z h' n0 D' ∧ ∀ target, Steps p.tables e below (T'.setTop { g with pc := g.pc + 2, stack := .ref (n0 + D.length) :: rest }) target → Steps p.tables e below (T.setTop g) target := by
  have hcb : componentBytes (newarray.typeOf aty) ≤ 8 := by cases aty <;> decide
  by_cases q : n < 0
  · simp only [nA, if_pos q] at hn; cases hn
  simp only [nA, if_neg q] at hn
  by_cases hcap : n.toNatClampNeg ≤ cap
  · rw [if_pos hcap] at hn
    cases hn
    obtain ⟨cA, kA, comp, h1, h2, h3, X', st⟩ := X.newarrayPrim hx (mvA hZ w) hg hd hs q (Nat.le_trans (Nat.mul_le_mul hcap hcb) hb) hc (by omega)
    subst eT
    rw [hZ.alike.findClass] at h1
    obtain ⟨kZ, z1, -⟩ := Vm.findClass_spec h1
    obtain ⟨k', z2, z3⟩ := hZ.alike.2.2 _ _ z1
    cases h2.symm.trans z2
    have hsz := O.1
    refine ⟨_, _, X'.more (Nat.le_refl _) (by omega), rfl, O.push (h' := T.heap.push _) ⟨by simp, fun a c h => ?_⟩ (by simp) ⟨fun ty hK' => ?_, fun C hK' => by rw [hK] at hK'; cases hK'⟩, by rw [← hsz]; exact st⟩
    · rw [Array.getElem?_push_lt (Array.getElem?_eq_some_iff.mp h).1]; exact (Array.getElem?_eq_getElem _).symm.trans h
    · cases hK.symm.trans hK'
      rw [← hsz]
      have ek : kZ.kind = .array comp (newarray.typeOf aty) := by rw [← h3, z3]
      refine ⟨⟨_, kZ, Array.getElem?_push_size, h1, z1, rfl, fun q => by rw [ek] at q; cases q⟩, _, ⟨Array.getElem?_push_size, ⟨by simp, kZ, z1, comp, ek⟩, by simp⟩, ?_, ?_, fun v hv => ?_⟩
      · rw [hz, List.map_replicate, sh_default]; simp
      · rw [List.length_replicate]; exact (back32 q).2
      · rw [(List.mem_replicate.mp hv).2, hz]; cases aty <;> rfl
  · rw [if_neg hcap] at hn; cases hn
/-! 4. contracts and calls -/
def Qw (K : Kt) (Z : State) (n0 : Nat) (r : Option Value) (D' : Hp) : Option Value → Heap → List Loc → Prop := fun v h L => v = r ∧ Fr n0 L ∧ Ow K Z h n0 D'
def Ct (K : Kt) (l : Launch) (Z : State) (y : MethodName) (cw : Jvm.Cond) (rm : Room) (n0 : Nat) (D : Hp) (as' : Array Value) (r : Option Value) (D' : Hp) : Prop :=
  ∀ (h0 : Heap) (ws : List Jvm.Cond), Ow K Z h0 n0 D → MetFree l y (head1 (cw :: ws) rm) (fun a U => a = as' ∧ Z.Warmed39 U.vm ∧ U.heap = h0) (fun _ _ _ _ _ => True) (fun _ U o U' => ∃ v L, o = .returned v ∧ Qw K Z n0 r D' v U'.heap L ∧ FrameEnd U o U' L rm.cells rm.slots)
/-- what stands still through a body -/
def Cx (p : Program) (s : State) (m : MethodId) (meth : Method) (c : Code) (Z : State) (bytes : ByteArray) (maxL : Nat) (ret : Option FieldType) (own nm : String) : Prop :=
  p.tables.exec = Jvm.exec ∧ Z.Warmed39 s.vm ∧ c.code = bytes ∧ c.maxLocals = maxL ∧ s.vm.findClass own = some m.cls ∧ meth.name = nm ∧ meth.sig.returnType = ret ∧ meth.locks = false
variable {y : MethodName} {bytes : ByteArray} {maxL : Nat} {ret : Option FieldType} {rm : Room} {r : Option Value}
theorem Ct.of {as' : Array Value} (hpl : plainFor y = true) (body : ∀ (p : Program) (e : Env) (s : State) (m : MethodId) (below : List Frame) (meth : Method) (c : Code) (s₁ : State) (h0 : Heap), Cx p s m meth c Z bytes maxL ret y.cls y.name → Stand p l e rm s m as' below meth c s₁ [] 0 0 → s₁.heap = h0 → Ow K Z h0 n0 D →
      Gl p e below s rm.cells rm.slots (Qw K Z n0 r D') (s₁.setTop (entryFrame m as' maxL))) : Ct K l Z y (.code y bytes maxL ret) rm n0 D as' r D' := by
  intro h0 ws O
  refine MetFree.of_bodySF hpl hisR ?_
  intro p e s m args below meth c s₁ Bd hml0 hP hK
  obtain ⟨rfl, hZ, hh⟩ := hP
  exact body p e s m below meth c s₁ h0 ⟨Bd.exec, hZ, Bd.bytes, hml0, findClass_of_methodNamed Bd.named, (name_of_methodNamed Bd.named Bd.method).1, Bd.returns, BodyLoose.notSynchronized Bd⟩ (Stand.of_body Bd) (by rw [← hh, Bd.state]; rfl) O
theorem Ct.ofH {as' : Array Value} {hs : List (Nat × Nat × Nat × Nat)} (hpl : plainFor y = true) (body : ∀ (p : Program) (e : Env) (s : State) (m : MethodId) (below : List Frame) (meth : Method) (c : Code) (s₁ : State) (h0 : Heap), Cx p s m meth c Z bytes maxL ret y.cls y.name → Stand p l e rm s m as' below meth c s₁ [] 0 0 → s₁.heap = h0 → Ow K Z h0 n0 D →
      Gl p e below s rm.cells rm.slots (Qw K Z n0 r D') (s₁.setTop (entryFrame m as' maxL))) : Ct K l Z y (.codeWith y bytes maxL ret hs) rm n0 D as' r D' := by
  intro h0 ws O
  refine MetFree.of_bodySF hpl hisWith ?_
  intro p e s m args below meth c s₁ Bd hml0 hP hK
  obtain ⟨rfl, hZ, hh⟩ := hP
  exact body p e s m below meth c s₁ h0 ⟨Bd.exec, hZ, Bd.bytes, hml0, findClass_of_methodNamed Bd.named, (name_of_methodNamed Bd.named Bd.method).1, Bd.returns, BodyLoose.notSynchronized Bd⟩ (Stand.of_body Bd) (by rw [← hh, Bd.state]; rfl) O
theorem callSW (X : Stand p l e R s m args below meth c T locs cells slots) (hx : p.tables.exec = Jvm.exec) (hZ : Z.Warmed39 s.vm) {own : String} {index : Nat} (hown : s.vm.findClass own = some m.cls) (w1 : (Cond.methodLink own index y).before a0 Z = true) (w2 : (Cond.static y).before a0 Z = true) (w3 : (Cond.initialized y.cls).before a0 Z = true) (w4 : (Cond.code y bytes maxL ret).before a0 Z = true)
    (hy : y.cls ≠ "java/lang/invoke/MethodHandle" ∧ y.cls ≠ "java/lang/invoke/VarHandle") (eT : T.heap = h) (O : Ow K Z h n0 D) (N : Fr n0 locs) {as' : List Value} (hM : Ct K l Z y (.code y bytes maxL ret) rm n0 D as'.toArray r D') {W kc ks : Nat} (hkc : rm.cells = kc) (hks : rm.slots = ks) (hf : rm.frames + 1 ≤ R.frames) (hl : W + (maxL + 11) + rm.locals ≤ R.locals)
    {g : JFrame} (hg : g.method = m) (hsize : g.locals.size = c.maxLocals) {rest : List Value} (hlen : ∀ sig, parseMethodDescriptor y.desc = some sig → as'.length = sig.parameters.length) (hs : g.stack = as'.reverse ++ rest) (hW : 2 * g.monitorRoom + (rest.map fun v => v.category).sum ≤ W) (hd : decode c.code g.pc = .ok (.invokestatic index, 3)) (hc : cells + kc ≤ R.cells) (hsl : slots + ks ≤ R.slots) :
    ∃ T' h' L, Stand p l e R s m args below meth c T' L (cells + kc) (slots + ks) ∧ T'.heap = h' ∧ Ow K Z h' n0 D' ∧ Fr n0 L ∧ ∀ target, Steps p.tables e below (T'.setTop { g with pc := g.pc + 3, stack := r.toList ++ rest }) target → Steps p.tables e below (T.setTop g) target := by
  subst hkc hks
  obtain ⟨_, _, ⟨T', L', k', n'⟩, -, X', ⟨Lc, hQ, hL, hk, hn⟩, st⟩ := Jvm.LawKit.callS X hx hown (mvT hZ w1) (mvT hZ w2) (mvT hZ w3) (mvT hZ w4) hy (backOf (W := W) (hM h [] O) hZ w4 w3 hf hl) hg hsize (argsL := as') hlen hs hW hd (fun _ _ => ⟨rfl, eT, hc, hsl⟩)
  dsimp only [Pt.U, Pt.locs, Pt.cells, Pt.slots] at X' hL hk hn st hQ
  subst hL hk hn
  obtain ⟨rfl, N', O'⟩ := hQ
  exact ⟨T', _, _, X', rfl, O', N.app N', st⟩
theorem callSHW (X : Stand p l e R s m args below meth c T locs cells slots) (hx : p.tables.exec = Jvm.exec) (hZ : Z.Warmed39 s.vm) {own : String} {index : Nat} {hs' : List (Nat × Nat × Nat × Nat)} (hown : s.vm.findClass own = some m.cls) (w1 : (Cond.methodLink own index y).before a0 Z = true) (w2 : (Cond.static y).before a0 Z = true) (w3 : (Cond.initialized y.cls).before a0 Z = true) (w4 : (Cond.codeWith y bytes maxL ret hs').before a0 Z = true)
    (hy : y.cls ≠ "java/lang/invoke/MethodHandle" ∧ y.cls ≠ "java/lang/invoke/VarHandle") (eT : T.heap = h) (O : Ow K Z h n0 D) (N : Fr n0 locs) {as' : List Value} (hM : Ct K l Z y (.codeWith y bytes maxL ret hs') rm n0 D as'.toArray r D') {W kc ks : Nat} (hkc : rm.cells = kc) (hks : rm.slots = ks) (hf : rm.frames + 1 ≤ R.frames) (hl : W + (maxL + 11) + rm.locals ≤ R.locals)
    {g : JFrame} (hg : g.method = m) (hsize : g.locals.size = c.maxLocals) {rest : List Value} (hlen : ∀ sig, parseMethodDescriptor y.desc = some sig → as'.length = sig.parameters.length) (hs : g.stack = as'.reverse ++ rest) (hW : 2 * g.monitorRoom + (rest.map fun v => v.category).sum ≤ W) (hd : decode c.code g.pc = .ok (.invokestatic index, 3)) (hc : cells + kc ≤ R.cells) (hsl : slots + ks ≤ R.slots) :
    ∃ T' h' L, Stand p l e R s m args below meth c T' L (cells + kc) (slots + ks) ∧ T'.heap = h' ∧ Ow K Z h' n0 D' ∧ Fr n0 L ∧ ∀ target, Steps p.tables e below (T'.setTop { g with pc := g.pc + 3, stack := r.toList ++ rest }) target → Steps p.tables e below (T.setTop g) target := by
  subst hkc hks
  obtain ⟨_, _, ⟨T', L', k', n'⟩, -, X', ⟨Lc, hQ, hL, hk, hn⟩, st⟩ := callSH X hx hown (mvT hZ w1) (mvT hZ w2) (mvT hZ w3) (mvT hZ w4) hy (backOfWith (W := W) (hM h [] O) hZ w4 w3 hf hl) hg hsize (argsL := as') hlen hs hW hd (fun _ _ => ⟨rfl, eT, hc, hsl⟩)
  dsimp only [Pt.U, Pt.locs, Pt.cells, Pt.slots] at X' hL hk hn st hQ
  subst hL hk hn
  obtain ⟨rfl, N', O'⟩ := hQ
  exact ⟨T', _, _, X', rfl, O', N.app N', st⟩
theorem callIW (X : Stand p l e R s m args below meth c T locs cells slots) (hx : p.tables.exec = Jvm.exec) (hZ : Z.Warmed39 s.vm) {own : String} {index : Nat} (hy1 : y.name = "<init>") (hown : s.vm.findClass own = some m.cls) (w1 : (Cond.methodLink own index y).before a0 Z = true) (w2 : (Cond.instanceMethod y).before a0 Z = true) (w3 : (Cond.initialized y.cls).before a0 Z = true) (w4 : (Cond.code y bytes maxL none).before a0 Z = true)
    (hy : y.cls ≠ "java/lang/invoke/MethodHandle" ∧ y.cls ≠ "java/lang/invoke/VarHandle") (eT : T.heap = h) (O : Ow K Z h n0 D) (N : Fr n0 locs) {as' : List Value} (hM : Ct K l Z y (.code y bytes maxL none) rm n0 D (.ref (n0 + a) :: as').toArray r D') {W kc ks : Nat} (hkc : rm.cells = kc) (hks : rm.slots = ks) (hf : rm.frames + 1 ≤ R.frames) (hl : W + (maxL + 11) + rm.locals ≤ R.locals)
    {g : JFrame} (hg : g.method = m) (hsize : g.locals.size = c.maxLocals) {rest : List Value} (hlen : ∀ sig, parseMethodDescriptor y.desc = some sig → as'.length = sig.parameters.length) (hs : g.stack = as'.reverse ++ .ref (n0 + a) :: rest) (hW : 2 * g.monitorRoom + (rest.map fun v => v.category).sum ≤ W) (hd : decode c.code g.pc = .ok (.invokespecial index, 3)) (hc : cells + kc ≤ R.cells) (hsl : slots + ks ≤ R.slots) :
    ∃ T' h' L, Stand p l e R s m args below meth c T' L (cells + kc) (slots + ks) ∧ T'.heap = h' ∧ Ow K Z h' n0 D' ∧ Fr n0 L ∧ ∀ target, Steps p.tables e below (T'.setTop { g with pc := g.pc + 3, stack := r.toList ++ rest }) target → Steps p.tables e below (T.setTop g) target := by
  subst hkc hks
  obtain ⟨_, _, ⟨T', L', k', n'⟩, -, X', ⟨Lc, hQ, hL, hk, hn⟩, st⟩ := Jvm.LawKit.callI X hx hown hy1 (mvT hZ w1) (mvT hZ w2) (mvT hZ w4) hy (backOf (W := W) (hM h [] O) hZ w4 w3 hf hl) hg hsize (argsL := as') hlen hs hW hd (fun _ _ => ⟨rfl, eT, hc, hsl⟩)
  dsimp only [Pt.U, Pt.locs, Pt.cells, Pt.slots] at X' hL hk hn st hQ
  subst hL hk hn
  obtain ⟨rfl, N', O'⟩ := hQ
  exact ⟨T', _, _, X', rfl, O', N.app N', st⟩
theorem callVW (X : Stand p l e R s m args below meth c T locs cells slots) (hx : p.tables.exec = Jvm.exec) (hZ : Z.Warmed39 s.vm) {own C : String} {index : Nat} (hown : s.vm.findClass own = some m.cls) (w1 : (Cond.methodLink own index y).before a0 Z = true) (w2 : (Cond.declares y).before a0 Z = true) (w5 : (Cond.selects C y y).before a0 Z = true) (w6 : (Cond.instanceMethod y).before a0 Z = true) (w3 : (Cond.initialized y.cls).before a0 Z = true) (w4 : (Cond.code y bytes maxL ret).before a0 Z = true)
    (hy : y.cls ≠ "java/lang/invoke/MethodHandle" ∧ y.cls ≠ "java/lang/invoke/VarHandle") (eT : T.heap = h) (O : Ow K Z h n0 D) (N : Fr n0 locs) {q : Nat} (hck : ck D a t = some q) (hK : (K t).1 = .object C) {as' : List Value} (hM : Ct K l Z y (.code y bytes maxL ret) rm n0 D (.ref (n0 + a) :: as').toArray r D') {W kc ks : Nat} (hkc : rm.cells = kc) (hks : rm.slots = ks) (hf : rm.frames + 1 ≤ R.frames) (hl : W + (maxL + 11) + rm.locals ≤ R.locals)
    {g : JFrame} (hg : g.method = m) (hsize : g.locals.size = c.maxLocals) {rest : List Value} (hlen : ∀ sig, parseMethodDescriptor y.desc = some sig → as'.length = sig.parameters.length) (hs : g.stack = as'.reverse ++ .ref (n0 + a) :: rest) (hW : 2 * g.monitorRoom + (rest.map fun v => v.category).sum ≤ W) (hd : decode c.code g.pc = .ok (.invokevirtual index, 3)) (hc : cells + kc ≤ R.cells) (hsl : slots + ks ≤ R.slots) :
    ∃ T' h' L, Stand p l e R s m args below meth c T' L (cells + kc) (slots + ks) ∧ T'.heap = h' ∧ Ow K Z h' n0 D' ∧ Fr n0 L ∧ ∀ target, Steps p.tables e below (T'.setTop { g with pc := g.pc + 3, stack := r.toList ++ rest }) target → Steps p.tables e below (T.setTop g) target := by
  subst hkc hks
  obtain ⟨cq, kq, qa, qb, qc⟩ := isOf hZ eT (O.exaC hck hK)
  obtain ⟨_, _, ⟨T', L', k', n'⟩, -, X', ⟨Lc, hQ, hL, hk, hn⟩, st⟩ := X.virtualBack hx (y := y) (z := y) hown (mvT hZ w1) (mvT hZ w2) (notFace_of_selects (args := #[]) (mvT hZ w5)) (mvT hZ w5) (mvT hZ w6) hy (backOf (W := W) (hM h [] O) hZ w4 w3 hf hl) qa qc hg hsize (Steps.refl _) (argsL := as') hlen hs hW hd (fun _ _ => ⟨rfl, eT, hc, hsl⟩)
  dsimp only [Pt.U, Pt.locs, Pt.cells, Pt.slots] at X' hL hk hn st hQ
  subst hL hk hn
  obtain ⟨rfl, N', O'⟩ := hQ
  exact ⟨T', _, _, X', rfl, O', N.app N', fun target k => st.trans k⟩
theorem callPW (X : Stand p l e R s m args below meth c T locs cells slots) (hx : p.tables.exec = Jvm.exec) (hZ : Z.Warmed39 s.vm) {own C : String} {index nk : Nat} (hown : s.vm.findClass own = some m.cls) (w1 : (Cond.methodLink own index y).before a0 Z = true) (w2 : (Cond.privateMethod y).before a0 Z = true) (w5 : (Cond.instantiable y.cls nk).before a0 Z = true) (w6 : (Cond.instanceMethod y).before a0 Z = true) (w3 : (Cond.initialized y.cls).before a0 Z = true) (w4 : (Cond.code y bytes maxL ret).before a0 Z = true)
    (hy : y.cls ≠ "java/lang/invoke/MethodHandle" ∧ y.cls ≠ "java/lang/invoke/VarHandle") (eT : T.heap = h) (O : Ow K Z h n0 D) (N : Fr n0 locs) {q : Nat} (hck : ck D a t = some q) (hK : (K t).1 = .object C) {as' : List Value} (hM : Ct K l Z y (.code y bytes maxL ret) rm n0 D (.ref (n0 + a) :: as').toArray r D') {W kc ks : Nat} (hkc : rm.cells = kc) (hks : rm.slots = ks) (hf : rm.frames + 1 ≤ R.frames) (hl : W + (maxL + 11) + rm.locals ≤ R.locals)
    {g : JFrame} (hg : g.method = m) (hsize : g.locals.size = c.maxLocals) {rest : List Value} (hlen : ∀ sig, parseMethodDescriptor y.desc = some sig → as'.length = sig.parameters.length) (hs : g.stack = as'.reverse ++ .ref (n0 + a) :: rest) (hW : 2 * g.monitorRoom + (rest.map fun v => v.category).sum ≤ W) (hd : decode c.code g.pc = .ok (.invokevirtual index, 3)) (hc : cells + kc ≤ R.cells) (hsl : slots + ks ≤ R.slots) :
    ∃ T' h' L, Stand p l e R s m args below meth c T' L (cells + kc) (slots + ks) ∧ T'.heap = h' ∧ Ow K Z h' n0 D' ∧ Fr n0 L ∧ ∀ target, Steps p.tables e below (T'.setTop { g with pc := g.pc + 3, stack := r.toList ++ rest }) target → Steps p.tables e below (T.setTop g) target := by
  subst hkc hks
  obtain ⟨cC, kC, i1, i2, -, i4, -, -⟩ := Cond.instantiable_spec (mvT (args := args) hZ w5)
  have hpr := Cond.privateMethod_at (mvP (args := args) hZ w2)
  have hsel := selects_self_of_private i1 i2 (Bool.or_eq_false_iff.mp i4).1 hpr (mvT (args := args) hZ w6) hy
  obtain ⟨cq, qa, qb⟩ := (O.exaC hck hK).cell
  obtain ⟨_, _, ⟨T', L', k', n'⟩, -, X', ⟨Lc, hQ, hL, hk, hn⟩, st⟩ := X.privateBack hx (y := y) hown (mvT hZ w1) (mvT hZ w6) hsel hpr (mvT hZ w4) hy (backOf (W := W) (hM h [] O) hZ w4 w3 hf hl) hg hsize (Steps.refl _) (by rw [eT]; exact qa) qb (argsL := as') hlen hs hW hd (fun _ _ => ⟨rfl, eT, hc, hsl⟩)
  dsimp only [Pt.U, Pt.locs, Pt.cells, Pt.slots] at X' hL hk hn st hQ
  subst hL hk hn
  obtain ⟨rfl, N', O'⟩ := hQ
  exact ⟨T', _, _, X', rfl, O', N.app N', fun target k => st.trans k⟩
theorem cloneW (X : Stand p l e R s m args below meth c T locs cells slots) (hx : p.tables.exec = Jvm.exec) (hZ : Z.Warmed39 s.vm) {own ad : String} {index : Nat} {ty : FieldType} (hown : s.vm.findClass own = some m.cls) (had : ad = "[" ++ ty.toString)
    (w1 : (Cond.methodLink own index ⟨ad, "clone", "()Ljava/lang/Object;"⟩).before a0 Z = true) (w2 : (Cond.sameMethod ad "java/lang/Object" "clone" "()Ljava/lang/Object;").before a0 Z = true) (w3 : (Cond.native ⟨"java/lang/Object", "clone", "()Ljava/lang/Object;"⟩).before a0 Z = true)
    (w4 : (Cond.instanceMethod ⟨"java/lang/Object", "clone", "()Ljava/lang/Object;"⟩).before a0 Z = true) (w5 : (Cond.selects ad ⟨ad, "clone", "()Ljava/lang/Object;"⟩ ⟨"java/lang/Object", "clone", "()Ljava/lang/Object;"⟩).before a0 Z = true) (w6 : (Cond.castable ad "java/lang/Cloneable").before a0 Z = true)
    (eT : T.heap = h) (O : Ow K Z h n0 D) (hK : (K t).1 = .array ty) {cap : Nat} (hq : cA' D a t cap = some D') {g : JFrame} (hg : g.method = m) (hsize : g.locals.size = c.maxLocals) {rest : List Value} (hs : g.stack = .ref (n0 + a) :: rest) (hd : decode c.code g.pc = .ok (.invokevirtual index, 3))
    (hf : 1 ≤ R.frames) {W : Nat} (hW : 2 * g.monitorRoom + (rest.map fun v => v.category).sum ≤ W) (hl : W + 14 ≤ R.locals) (hc : cells + 1 ≤ R.cells) (hsl : slots + cap ≤ R.slots) :
    ∃ T' h', Stand p l e R s m args below meth c T' locs (cells + 1) (slots + cap) ∧ T'.heap = h' ∧ Ow K Z h' n0 D' ∧ ∀ target, Steps p.tables e below (T'.setTop { g with pc := g.pc + 3, stack := .ref (n0 + D.length) :: rest }) target → Steps p.tables e below (T.setTop g) target := by
  obtain ⟨vs, h1, h2, rfl⟩ := cA_e hq
  obtain ⟨E, cl, A, hsl', hlen, hfit⟩ := (O.2 a t vs h1).1 ty hK
  rw [← had] at E
  obtain ⟨c2, k, e1, e2, e3, e4, e5⟩ := E
  cases A.1.symm.trans e1
  obtain ⟨c1, cC, g1, g2, g3⟩ := Cond.castable_spec w6
  cases e2.symm.trans g1
  have hal : Z.vm.Alike T.vm := hZ.alike.trans X.warmed.alike
  have hsz : cl.slots.size = vs.length := by rw [hsl', sh_len]
  have hfc : ∀ i v, cl.slots[i]? = some v → Z.fitsSlot cl.cls .none i v = true := fun i v hv => by
    obtain ⟨-, k2, hk2, comp, hkind⟩ := A.2.1
    have e : Z.slotType? cl.cls .none i = some ty := by simp [State.slotType?, hk2, hkind]
    have hv' : ∃ w ∈ vs, sh n0 w = v := by
      rw [hsl'] at hv
      have hm : v ∈ vs.map (sh n0) := by
        have := Array.mem_of_getElem? hv
        simpa using this
      exact List.mem_map.mp hm
    obtain ⟨w, hw, rfl⟩ := hv'
    have hfw : fits ty (sh n0 w) = true := by
      have := hfit w hw
      cases w <;> first | exact this | (cases ty <;> first | (cases this; done) | rfl)
    simpa [State.fitsSlot, e] using hfw
  obtain ⟨vm', X', st⟩ := X.cloneArray hx hown (mv hZ w1) (mv hZ w2) (mv hZ w3) (mv hZ w4) (mv hZ w5) (a := n0 + a) (by rw [eT]; exact A.1) A.2.1.1 A.2.2 (by rw [hZ.alike.findClass]; exact e2) (by rw [hZ.alike.findClass]; exact g2) (by rw [hZ.alike.assignable]; exact g3)
    (fun i v hv => by have q := hfc i v hv; rw [← State.fitsSlot_setVm hal] at q; exact q) hg hsize hs hd hf (by omega) hc (by omega)
    (by obtain ⟨-, k2, hk2, comp, hkind⟩ := A.2.1; rw [hZ.alike.clonesLoader]; exact Vm.clonesLoader_of_array hk2 hkind)
  subst eT
  have hs0 := O.1
  refine ⟨_, _, X'.more (Nat.le_refl _) (by omega), rfl, O.push (h' := T.heap.push _) ⟨by simp, fun a c h => ?_⟩ (by simp) ⟨fun ty' hK' => ?_, fun C hK' => by rw [hK] at hK'; cases hK'⟩, by rw [← hs0]; exact st⟩
  · rw [Array.getElem?_push_lt (Array.getElem?_eq_some_iff.mp h).1]; exact (Array.getElem?_eq_getElem _).symm.trans h
  · cases hK.symm.trans hK'
    rw [← hs0, ← had]
    exact ⟨⟨_, k, Array.getElem?_push_size, e2, e3, rfl, e5⟩, _, ⟨Array.getElem?_push_size, ⟨fun _ z => (by cases z), A.2.1.2⟩, fun z => (by cases z)⟩, hsl', hlen, hfit⟩
theorem castW (X : Stand p l e R s m args below meth c T locs cells slots) (hx : p.tables.exec = Jvm.exec) (hZ : Z.Warmed39 s.vm) {own ad : String} {index : Nat} {ty : FieldType} (hown : s.vm.findClass own = some m.cls) (w : (Cond.classLink own index ad).before a0 Z = true) (had : ad = "[" ++ ty.toString) (eT : T.heap = h) (O : Ow K Z h n0 D) {q : Nat} (hck : ck D a t = some q) (hK : (K t).1 = .array ty)
    {g : JFrame} (hg : g.method = m) {rest : List Value} (hs : g.stack = .ref (n0 + a) :: rest) (hd : decode c.code g.pc = .ok (.checkcast index, 3)) : ∃ T', Stand p l e R s m args below meth c T' locs cells slots ∧ T'.heap = h ∧ ∀ target, Steps p.tables e below (T'.setTop { g with pc := g.pc + 3 }) target → Steps p.tables e below (T.setTop g) target := by
  obtain ⟨vs, h1⟩ := ck_e hck
  obtain ⟨E, -⟩ := (O.2 a t vs h1).1 ty hK
  rw [← had] at E
  exact castY X hx hZ hown w eT (Ins.self E) hg hs hd
end OwnLaws
def Kt1 : Kt := fun k => match k with
  | 0 => ((.array .byte), [])
  | _ => (.int, [])
theorem lay1 {Z : State} {a0 : Array Value} (hw : ∀ d ∈ tables_1, d.before a0 Z = true) : Lay Kt1 Z a0 := by
  intro t C hC
  match t, hC with
  | 0, hC => cases hC
  | n + 1, hC => cases hC
theorem d1_0 : decode prog_37_method_12_code 0 = .ok (.lconst 0, 1) := by decide +kernel
theorem d1_1 : decode prog_37_method_12_code 1 = .ok (.lstore_n 2, 1) := by decide +kernel
theorem d1_2 : decode prog_37_method_12_code 2 = .ok (.bipush 7, 2) := by decide +kernel
theorem d1_4 : decode prog_37_method_12_code 4 = .ok (.istore 4, 2) := by decide +kernel
theorem d1_6 : decode prog_37_method_12_code 6 = .ok (.iload 4, 2) := by decide +kernel
theorem d1_8 : decode prog_37_method_12_code 8 = .ok (.ifCond .lt 26, 3) := by decide +kernel
theorem d1_11 : decode prog_37_method_12_code 11 = .ok (.lload_n 2, 1) := by decide +kernel
theorem d1_12 : decode prog_37_method_12_code 12 = .ok (.bipush 8, 2) := by decide +kernel
theorem d1_14 : decode prog_37_method_12_code 14 = .ok (.lshl, 1) := by decide +kernel
theorem d1_15 : decode prog_37_method_12_code 15 = .ok (.aload_n 0, 1) := by decide +kernel
theorem d1_16 : decode prog_37_method_12_code 16 = .ok (.iload_n 1, 1) := by decide +kernel
theorem d1_17 : decode prog_37_method_12_code 17 = .ok (.iload 4, 2) := by decide +kernel
theorem d1_19 : decode prog_37_method_12_code 19 = .ok (.iadd, 1) := by decide +kernel
theorem d1_20 : decode prog_37_method_12_code 20 = .ok (.baload, 1) := by decide +kernel
theorem d1_21 : decode prog_37_method_12_code 21 = .ok (.sipush 255, 3) := by decide +kernel
theorem d1_24 : decode prog_37_method_12_code 24 = .ok (.iand, 1) := by decide +kernel
theorem d1_25 : decode prog_37_method_12_code 25 = .ok (.i2l, 1) := by decide +kernel
theorem d1_26 : decode prog_37_method_12_code 26 = .ok (.lor, 1) := by decide +kernel
theorem d1_27 : decode prog_37_method_12_code 27 = .ok (.lstore_n 2, 1) := by decide +kernel
theorem d1_28 : decode prog_37_method_12_code 28 = .ok (.iinc 4 (-1), 3) := by decide +kernel
theorem d1_31 : decode prog_37_method_12_code 31 = .ok (.goto (-25), 3) := by decide +kernel
theorem d1_34 : decode prog_37_method_12_code 34 = .ok (.lload_n 2, 1) := by decide +kernel
theorem d1_35 : decode prog_37_method_12_code 35 = .ok (.lreturn, 1) := by decide +kernel
theorem pn_1 : plainName "com/example/whorl/whorl/hpke/Field25519" = true := by first | (simp [plainName, overriddenIn]; done) | decide +kernel
def b1_6 : Nat → Hp → Nat → Int32 → Int64 → Int32 → Option (Int64 × Hp)
  | 0, _, _, _, _, _ => none
  | fu + 1, D, ob0, i1, j2, i4 =>
  if i4 < (0 : Int32) then (some (j2, D)) else ((rI D ob0 0 (i1 + i4)).bind fun x2 =>
  own_let ((j2 <<< ((8 : Int32) &&& 0x3f).toInt64) ||| ((x2 &&& (255 : Int32)).toInt64)) fun v3 =>
  b1_6 fu D ob0 i1 v3 (i4 + (-1 : Int32)))
set_option maxRecDepth 65536 in
set_option maxHeartbeats 40000000 in
theorem bt1_6 {p : Program} {l : Launch} {e : Env} {s : State} {m : MethodId} {args : Array Value} {below : List Frame} {meth : Method} {c : Code} {Z : State} {a0 : Array Value} {n0 : Nat} {D' : Hp} {r : Int64} (hw : ∀ d ∈ tables_1, d.before a0 Z = true) (hC : Cx p s m meth c Z prog_37_method_12_code 5 (some .long) "com/example/whorl/whorl/hpke/Field25519" "littleEndian64") (fu : Nat) : ∀ {T0 : State} {locs : List Loc} {cells slots : Nat} {h0 : Heap} {D : Hp} {ob0 : Nat} {i1 : Int32} {j2 : Int64} {i4 : Int32}, (Stand p l e ({ frames := 0, cells := 0, slots := 0, locals := 0 } : Room) s m args below meth c T0 locs cells slots) → (T0.heap = h0) → (Ow Kt1 Z h0 n0 D) → (Fr n0 locs) → (cells ≤ 0) → (slots ≤ 0) → (b1_6 fu D ob0 i1 j2 i4 = some (r, D')) → Gl p e below s 0 0 (Qw Kt1 Z n0 (some (.long r)) D') (T0.setTop (mkF m 6 #[.val (.ref (n0 + ob0)), .val (.int i1), .val (.long j2), .second, .val (.int i4)] [])) := by
  obtain ⟨hx, hZ, hby, hml, hown, hnm, hret, hlk⟩ := id hC
  have hml : c.maxLocals = 5 := hml
  induction fu with
  | zero => intro T0 locs cells slots h0 D ob0 i1 j2 i4 X0 e0 O0 N0 hcc hss hf; cases hf
  | succ fu ih =>
    intro T0 locs cells slots h0 D ob0 i1 j2 i4 X0 e0 O0 N0 hcc hss hf
    rw [b1_6] at hf
    refine Gl.on (B := T0.setTop (mkF m 8 #[.val (.ref (n0 + ob0)), .val (.int i1), .val (.long j2), .second, .val (.int i4)] [(.int i4)])) (fun t k => ?_) ?_
    · show Steps p.tables e below (T0.setTop (mkF m 6 #[.val (.ref (n0 + ob0)), .val (.int i1), .val (.long j2), .second, .val (.int i4)] [])) _
      refine XS.iload X0.here hx rfl (hb hby d1_6) rfl ?_
      exact k
    by_cases hc1 : i4 < (0 : Int32)
    · rw [if_pos hc1] at hf
      refine Gl.on (B := T0.setTop (mkF m 35 #[.val (.ref (n0 + ob0)), .val (.int i1), .val (.long j2), .second, .val (.int i4)] [(.long j2)])) (fun t k => ?_) ?_
      · show Steps p.tables e below (T0.setTop (mkF m 8 #[.val (.ref (n0 + ob0)), .val (.int i1), .val (.long j2), .second, .val (.int i4)] [(.int i4)])) _
        refine XS.ifYes X0.here hx rfl (pc0 := 8) (pc' := 34) rfl (hb hby d1_8) rfl ((if0 _ _).trans (tlt hc1).1) (by decide) (by decide) ?_
        show Steps p.tables e below (T0.setTop (mkF m 34 #[.val (.ref (n0 + ob0)), .val (.int i1), .val (.long j2), .second, .val (.int i4)] [])) _
        refine XS.lloadN X0.here hx rfl (hb hby d1_34) rfl ?_
        exact k
      obtain ⟨rfl, rfl⟩ := own_inj hf
      exact Gl.outJ X0 hx hlk hret (hb hby d1_35) ⟨rfl, N0, by rw [e0]; exact O0⟩ (by show _ ≤ 0; omega) (by show _ ≤ 0; omega)
    · rw [if_neg hc1] at hf
      obtain ⟨x2, hx2, hf⟩ := own_bind hf
      obtain ⟨v3, hv3, hf⟩ := own_letE hf
      refine Gl.on (B := T0.setTop (mkF m 6 #[.val (.ref (n0 + ob0)), .val (.int i1), .val (.long v3), .second, .val (.int (i4 + (-1 : Int32)))] [])) (fun t k => ?_) ?_
      · show Steps p.tables e below (T0.setTop (mkF m 8 #[.val (.ref (n0 + ob0)), .val (.int i1), .val (.long j2), .second, .val (.int i4)] [(.int i4)])) _
        refine XS.ifNo X0.here hx rfl (hb hby d1_8) rfl ((if0 _ _).trans (flt hc1).1) ?_
        show Steps p.tables e below (T0.setTop (mkF m 11 #[.val (.ref (n0 + ob0)), .val (.int i1), .val (.long j2), .second, .val (.int i4)] [])) _
        refine XS.lloadN X0.here hx rfl (hb hby d1_11) rfl ?_
        show Steps p.tables e below (T0.setTop (mkF m 12 #[.val (.ref (n0 + ob0)), .val (.int i1), .val (.long j2), .second, .val (.int i4)] [(.long j2)])) _
        refine XS.bipush X0.here hx rfl (hb hby d1_12) ?_
        show Steps p.tables e below (T0.setTop (mkF m 14 #[.val (.ref (n0 + ob0)), .val (.int i1), .val (.long j2), .second, .val (.int i4)] [(.int (8 : Int32)), (.long j2)])) _
        refine XS.lshl X0.here hx rfl (hb hby d1_14) rfl ?_
        show Steps p.tables e below (T0.setTop (mkF m 15 #[.val (.ref (n0 + ob0)), .val (.int i1), .val (.long j2), .second, .val (.int i4)] [(.long (j2 <<< ((8 : Int32) &&& 0x3f).toInt64))])) _
        refine XS.aloadN X0.here hx rfl (hb hby d1_15) rfl rfl ?_
        show Steps p.tables e below (T0.setTop (mkF m 16 #[.val (.ref (n0 + ob0)), .val (.int i1), .val (.long j2), .second, .val (.int i4)] [(.ref (n0 + ob0)), (.long (j2 <<< ((8 : Int32) &&& 0x3f).toInt64))])) _
        refine XS.iloadN X0.here hx rfl (hb hby d1_16) rfl ?_
        show Steps p.tables e below (T0.setTop (mkF m 17 #[.val (.ref (n0 + ob0)), .val (.int i1), .val (.long j2), .second, .val (.int i4)] [(.int i1), (.ref (n0 + ob0)), (.long (j2 <<< ((8 : Int32) &&& 0x3f).toInt64))])) _
        refine XS.iload X0.here hx rfl (hb hby d1_17) rfl ?_
        show Steps p.tables e below (T0.setTop (mkF m 19 #[.val (.ref (n0 + ob0)), .val (.int i1), .val (.long j2), .second, .val (.int i4)] [(.int i4), (.int i1), (.ref (n0 + ob0)), (.long (j2 <<< ((8 : Int32) &&& 0x3f).toInt64))])) _
        refine XS.iadd X0.here hx rfl (hb hby d1_19) rfl ?_
        show Steps p.tables e below (T0.setTop (mkF m 20 #[.val (.ref (n0 + ob0)), .val (.int i1), .val (.long j2), .second, .val (.int i4)] [(.int (i1 + i4)), (.ref (n0 + ob0)), (.long (j2 <<< ((8 : Int32) &&& 0x3f).toInt64))])) _
        refine ldB X0 hx hZ e0 O0 hx2 rfl (g := (mkF m 20 #[.val (.ref (n0 + ob0)), .val (.int i1), .val (.long j2), .second, .val (.int i4)] [(.int (i1 + i4)), (.ref (n0 + ob0)), (.long (j2 <<< ((8 : Int32) &&& 0x3f).toInt64))])) rfl rfl (hb hby d1_20) _ ?_
        show Steps p.tables e below (T0.setTop (mkF m 21 #[.val (.ref (n0 + ob0)), .val (.int i1), .val (.long j2), .second, .val (.int i4)] [(.int x2), (.long (j2 <<< ((8 : Int32) &&& 0x3f).toInt64))])) _
        refine XS.sipush X0.here hx rfl (hb hby d1_21) ?_
        show Steps p.tables e below (T0.setTop (mkF m 24 #[.val (.ref (n0 + ob0)), .val (.int i1), .val (.long j2), .second, .val (.int i4)] [(.int (255 : Int32)), (.int x2), (.long (j2 <<< ((8 : Int32) &&& 0x3f).toInt64))])) _
        refine XS.iand X0.here hx rfl (hb hby d1_24) rfl ?_
        show Steps p.tables e below (T0.setTop (mkF m 25 #[.val (.ref (n0 + ob0)), .val (.int i1), .val (.long j2), .second, .val (.int i4)] [(.int (x2 &&& (255 : Int32))), (.long (j2 <<< ((8 : Int32) &&& 0x3f).toInt64))])) _
        refine XS.i2l X0.here hx rfl (hb hby d1_25) rfl ?_
        show Steps p.tables e below (T0.setTop (mkF m 26 #[.val (.ref (n0 + ob0)), .val (.int i1), .val (.long j2), .second, .val (.int i4)] [(.long ((x2 &&& (255 : Int32)).toInt64)), (.long (j2 <<< ((8 : Int32) &&& 0x3f).toInt64))])) _
        refine XS.lor X0.here hx rfl (hb hby d1_26) rfl ?_
        show Steps p.tables e below (T0.setTop (mkF m 27 #[.val (.ref (n0 + ob0)), .val (.int i1), .val (.long j2), .second, .val (.int i4)] [(.long ((j2 <<< ((8 : Int32) &&& 0x3f).toInt64) ||| ((x2 &&& (255 : Int32)).toInt64)))])) _
        refine own_to (congrArg (fun z => T0.setTop (mkF m 27 #[.val (.ref (n0 + ob0)), .val (.int i1), .val (.long j2), .second, .val (.int i4)] [(.long z)])) hv3) ?_
        show Steps p.tables e below (T0.setTop (mkF m 27 #[.val (.ref (n0 + ob0)), .val (.int i1), .val (.long j2), .second, .val (.int i4)] [(.long v3)])) _
        refine XS.lstoreN X0.here hx rfl (hb hby d1_27) rfl (l' := #[.val (.ref (n0 + ob0)), .val (.int i1), .val (.long v3), .second, .val (.int i4)]) rfl ?_
        show Steps p.tables e below (T0.setTop (mkF m 28 #[.val (.ref (n0 + ob0)), .val (.int i1), .val (.long v3), .second, .val (.int i4)] [])) _
        refine XS.iinc X0.here hx rfl (hb hby d1_28) rfl (l' := #[.val (.ref (n0 + ob0)), .val (.int i1), .val (.long v3), .second, .val (.int (i4 + (-1 : Int32)))]) rfl ?_
        show Steps p.tables e below (T0.setTop (mkF m 31 #[.val (.ref (n0 + ob0)), .val (.int i1), .val (.long v3), .second, .val (.int (i4 + (-1 : Int32)))] [])) _
        refine XS.goto X0.here hx rfl (pc0 := 31) (pc' := 6) rfl (hb hby d1_31) (by decide) (by decide) ?_
        exact k
      exact ih X0 e0 O0 N0 (by omega) (by omega) hf
def f1 (D : Hp) (ob0 : Nat) (i1 : Int32) : Option (Int64 × Hp) :=
  b1_6 12 D ob0 i1 (0 : Int64) (7 : Int32)
theorem ef_1 (m : MethodId) (n0 : Nat) (ob0 : Nat) (i1 : Int32) : entryFrame m #[(.ref (n0 + ob0)), (.int i1)] 5 = mkF m 0 #[.val (.ref (n0 + ob0)), .val (.int i1), .unset, .unset, .unset] [] := by first | (simp [entryFrame, mkF, argsToLocals, Value.category]; done) | rfl
set_option maxRecDepth 65536 in
set_option maxHeartbeats 40000000 in
theorem ct1 {l : Launch} {Z : State} {a0 : Array Value} (hw : ∀ d ∈ tables_1, d.before a0 Z = true) {n0 : Nat} {D D' : Hp} {ob0 : Nat} {i1 : Int32} {r : Int64} (hf : f1 D ob0 i1 = some (r, D')) :
    Ct Kt1 l Z (⟨"com/example/whorl/whorl/hpke/Field25519", "littleEndian64", "([BI)J"⟩ : MethodName) (.code (⟨"com/example/whorl/whorl/hpke/Field25519", "littleEndian64", "([BI)J"⟩ : MethodName) prog_37_method_12_code 5 (some .long)) ({ frames := 0, cells := 0, slots := 0, locals := 0 } : Room) n0 D #[(.ref (n0 + ob0)), (.int i1)] (some (.long r)) D' := by
  refine Ct.of (plainFor_of_name pn_1) ?_
  intro p e s m below meth c T0 h0 hC X0 e0 O0
  obtain ⟨hx, hZ, hby, hml, hown, hnm, hret, hlk⟩ := id hC
  have hml : c.maxLocals = 5 := hml
  have hown : s.vm.findClass "com/example/whorl/whorl/hpke/Field25519" = some m.cls := hown
  have hnm : meth.name = "littleEndian64" := hnm
  have N0 := Fr.nil n0
  refine Gl.on (fun t k => castTop (ef_1 m n0 ob0 i1) k) ?_
  rw [f1] at hf
  refine Gl.on (B := T0.setTop (mkF m 6 #[.val (.ref (n0 + ob0)), .val (.int i1), .val (.long (0 : Int64)), .second, .val (.int (7 : Int32))] [])) (fun t k => ?_) ?_
  · show Steps p.tables e below (T0.setTop (mkF m 0 #[.val (.ref (n0 + ob0)), .val (.int i1), .unset, .unset, .unset] [])) _
    refine XS.lconst X0.here hx rfl (hb hby d1_0) ?_
    show Steps p.tables e below (T0.setTop (mkF m 1 #[.val (.ref (n0 + ob0)), .val (.int i1), .unset, .unset, .unset] [(.long (0 : Int64))])) _
    refine XS.lstoreN X0.here hx rfl (hb hby d1_1) rfl (l' := #[.val (.ref (n0 + ob0)), .val (.int i1), .val (.long (0 : Int64)), .second, .unset]) rfl ?_
    show Steps p.tables e below (T0.setTop (mkF m 2 #[.val (.ref (n0 + ob0)), .val (.int i1), .val (.long (0 : Int64)), .second, .unset] [])) _
    refine XS.bipush X0.here hx rfl (hb hby d1_2) ?_
    show Steps p.tables e below (T0.setTop (mkF m 4 #[.val (.ref (n0 + ob0)), .val (.int i1), .val (.long (0 : Int64)), .second, .unset] [(.int (7 : Int32))])) _
    refine XS.istore X0.here hx rfl (hb hby d1_4) rfl (l' := #[.val (.ref (n0 + ob0)), .val (.int i1), .val (.long (0 : Int64)), .second, .val (.int (7 : Int32))]) rfl ?_
    exact k
  exact bt1_6 hw hC 12 X0 e0 O0 N0 (by omega) (by omega) hf
theorem pd_0 : parseMethodDescriptor "([BI)J" = some ⟨[(.array .byte), .int], some .long⟩ := by decide +kernel
theorem pn_0 : plainName "com/example/whorl/whorl/hpke/Field25519LittleEndian64PinLaw" = true := by first | (simp [plainName, overriddenIn]; done) | decide +kernel
def f0 (D : Hp) (j0 : Int64) (j2 : Int64) (i4 : Int32) (i5 : Int32) : Option (Int32 × Hp) :=
  own_let (D.length) fun a1 => (nA D 0 (12 : Int32) 12 (.int (0 : Int32))).bind fun D1 =>
  (wV D1 a1 0 (0 : Int32) (.int ((j2.toInt32).toInt8.toInt32).toInt8.toInt32)).bind fun D2 =>
  (wV D2 a1 0 (1 : Int32) (.int ((((j2.toUInt64 >>> ((8 : Int32) &&& 0x3f).toInt64.toUInt64).toInt64).toInt32).toInt8.toInt32).toInt8.toInt32)).bind fun D3 =>
  (wV D3 a1 0 (2 : Int32) (.int ((((j2.toUInt64 >>> ((16 : Int32) &&& 0x3f).toInt64.toUInt64).toInt64).toInt32).toInt8.toInt32).toInt8.toInt32)).bind fun D4 =>
  (wV D4 a1 0 (3 : Int32) (.int ((((j2.toUInt64 >>> ((24 : Int32) &&& 0x3f).toInt64.toUInt64).toInt64).toInt32).toInt8.toInt32).toInt8.toInt32)).bind fun D5 =>
  (wV D5 a1 0 (4 : Int32) (.int ((((j2.toUInt64 >>> ((32 : Int32) &&& 0x3f).toInt64.toUInt64).toInt64).toInt32).toInt8.toInt32).toInt8.toInt32)).bind fun D6 =>
  (wV D6 a1 0 (5 : Int32) (.int ((((j2.toUInt64 >>> ((40 : Int32) &&& 0x3f).toInt64.toUInt64).toInt64).toInt32).toInt8.toInt32).toInt8.toInt32)).bind fun D7 =>
  (wV D7 a1 0 (6 : Int32) (.int ((((j2.toUInt64 >>> ((48 : Int32) &&& 0x3f).toInt64.toUInt64).toInt64).toInt32).toInt8.toInt32).toInt8.toInt32)).bind fun D8 =>
  (wV D8 a1 0 (7 : Int32) (.int ((((j2.toUInt64 >>> ((56 : Int32) &&& 0x3f).toInt64.toUInt64).toInt64).toInt32).toInt8.toInt32).toInt8.toInt32)).bind fun D9 =>
  (wV D9 a1 0 (8 : Int32) (.int (i4.toInt8.toInt32).toInt8.toInt32)).bind fun D10 =>
  (wV D10 a1 0 (9 : Int32) (.int (((i4.toUInt32 >>> ((8 : Int32) &&& 31).toUInt32).toInt32).toInt8.toInt32).toInt8.toInt32)).bind fun D11 =>
  (wV D11 a1 0 (10 : Int32) (.int (((i4.toUInt32 >>> ((16 : Int32) &&& 31).toUInt32).toInt32).toInt8.toInt32).toInt8.toInt32)).bind fun D12 =>
  (wV D12 a1 0 (11 : Int32) (.int (((i4.toUInt32 >>> ((24 : Int32) &&& 31).toUInt32).toInt32).toInt8.toInt32).toInt8.toInt32)).bind fun D13 =>
  own_let ((i5 &&& (2147483647 : Int32)) % (5 : Int32)) fun v14 =>
  (wV D13 a1 0 v14 (.int ((j0.toInt32).toInt8.toInt32).toInt8.toInt32)).bind fun D15 =>
  (wV D15 a1 0 (v14 + (1 : Int32)) (.int ((((j0.toUInt64 >>> ((8 : Int32) &&& 0x3f).toInt64.toUInt64).toInt64).toInt32).toInt8.toInt32).toInt8.toInt32)).bind fun D16 =>
  (wV D16 a1 0 (v14 + (2 : Int32)) (.int ((((j0.toUInt64 >>> ((16 : Int32) &&& 0x3f).toInt64.toUInt64).toInt64).toInt32).toInt8.toInt32).toInt8.toInt32)).bind fun D17 =>
  (wV D17 a1 0 (v14 + (3 : Int32)) (.int ((((j0.toUInt64 >>> ((24 : Int32) &&& 0x3f).toInt64.toUInt64).toInt64).toInt32).toInt8.toInt32).toInt8.toInt32)).bind fun D18 =>
  (wV D18 a1 0 (v14 + (4 : Int32)) (.int ((((j0.toUInt64 >>> ((32 : Int32) &&& 0x3f).toInt64.toUInt64).toInt64).toInt32).toInt8.toInt32).toInt8.toInt32)).bind fun D19 =>
  (wV D19 a1 0 (v14 + (5 : Int32)) (.int ((((j0.toUInt64 >>> ((40 : Int32) &&& 0x3f).toInt64.toUInt64).toInt64).toInt32).toInt8.toInt32).toInt8.toInt32)).bind fun D20 =>
  (wV D20 a1 0 (v14 + (6 : Int32)) (.int ((((j0.toUInt64 >>> ((48 : Int32) &&& 0x3f).toInt64.toUInt64).toInt64).toInt32).toInt8.toInt32).toInt8.toInt32)).bind fun D21 =>
  (wV D21 a1 0 (v14 + (7 : Int32)) (.int ((((j0.toUInt64 >>> ((56 : Int32) &&& 0x3f).toInt64.toUInt64).toInt64).toInt32).toInt8.toInt32).toInt8.toInt32)).bind fun D22 =>
  (f1 D22 a1 v14).bind fun q23 => own_let q23.1 fun x24 => own_let q23.2 fun D23 =>
  if x24 = j0 then (some ((1 : Int32), D23)) else (some ((0 : Int32), D23))
theorem ef_0 (m : MethodId) (j0 : Int64) (j2 : Int64) (i4 : Int32) (i5 : Int32) : entryFrame m #[(.long j0), (.long j2), (.int i4), (.int i5)] maxLocals = mkF m 0 #[.val (.long j0), .second, .val (.long j2), .second, .val (.int i4), .val (.int i5), .unset, .unset] [] := by first | (simp [entryFrame, mkF, argsToLocals, Value.category, maxLocals]; done) | rfl
set_option maxRecDepth 65536 in
set_option maxHeartbeats 40000000 in
theorem ct0 {l : Launch} {Z : State} {a0 : Array Value} (hw : ∀ d ∈ tables_1, d.before a0 Z = true) {n0 : Nat} {D D' : Hp} {j0 : Int64} {j2 : Int64} {i4 : Int32} {i5 : Int32} {r : Int32} (hf : f0 D j0 j2 i4 i5 = some (r, D')) :
    Ct Kt1 l Z x (.code x code maxLocals ret) room_1 n0 D #[(.long j0), (.long j2), (.int i4), (.int i5)] (some (.int r)) D' := by
  refine Ct.of (plainFor_of_name pn_0) ?_
  intro p e s m below meth c T0 h0 hC X0 e0 O0
  obtain ⟨hx, hZ, hby, hml, hown, hnm, hret, hlk⟩ := id hC
  have hml : c.maxLocals = 8 := hml
  have hown : s.vm.findClass "com/example/whorl/whorl/hpke/Field25519LittleEndian64PinLaw" = some m.cls := hown
  have hnm : meth.name = "law" := hnm
  have N0 := Fr.nil n0
  refine Gl.on (fun t k => castTop (ef_0 m j0 j2 i4 i5) k) ?_
  rw [f0] at hf
  obtain ⟨a1, ha1, hf⟩ := own_letE hf
  obtain ⟨D1, hD1, hf⟩ := own_bind hf
  obtain ⟨T1, h1, X1, e1, O1, st1⟩ := newAW X0 hx hZ (aty := .byte) (hw _ (List.mem_of_getElem? (i := 0) rfl)) e0 O0 rfl rfl hD1 (g := (mkF m 2 #[.val (.long j0), .second, .val (.long j2), .second, .val (.int i4), .val (.int i5), .unset, .unset] [(.int (12 : Int32))])) rfl (hb hby at_2) rfl (by decide) (by show _ + 1 ≤ 16; omega) (by show _ + 12 ≤ 128; omega)
  rw [ha1] at st1
  obtain ⟨D2, hq2, hf⟩ := own_bind hf
  obtain ⟨T2, h2, L2, X2, e2, O2, N2, st2⟩ := stBW X1 hx hZ e1 O1 N0 hq2 rfl (g := (mkF m 12 #[.val (.long j0), .second, .val (.long j2), .second, .val (.int i4), .val (.int i5), .val (.ref (n0 + a1)), .unset] [(.int ((j2.toInt32).toInt8.toInt32)), (.int (0 : Int32)), (.ref (n0 + a1))])) rfl rfl (hb hby at_12)
  obtain ⟨D3, hq3, hf⟩ := own_bind hf
  obtain ⟨T3, h3, L3, X3, e3, O3, N3, st3⟩ := stBW X2 hx hZ e2 O2 N2 hq3 rfl (g := (mkF m 22 #[.val (.long j0), .second, .val (.long j2), .second, .val (.int i4), .val (.int i5), .val (.ref (n0 + a1)), .unset] [(.int ((((j2.toUInt64 >>> ((8 : Int32) &&& 0x3f).toInt64.toUInt64).toInt64).toInt32).toInt8.toInt32)), (.int (1 : Int32)), (.ref (n0 + a1))])) rfl rfl (hb hby at_22)
  obtain ⟨D4, hq4, hf⟩ := own_bind hf
  obtain ⟨T4, h4, L4, X4, e4, O4, N4, st4⟩ := stBW X3 hx hZ e3 O3 N3 hq4 rfl (g := (mkF m 32 #[.val (.long j0), .second, .val (.long j2), .second, .val (.int i4), .val (.int i5), .val (.ref (n0 + a1)), .unset] [(.int ((((j2.toUInt64 >>> ((16 : Int32) &&& 0x3f).toInt64.toUInt64).toInt64).toInt32).toInt8.toInt32)), (.int (2 : Int32)), (.ref (n0 + a1))])) rfl rfl (hb hby at_32)
  obtain ⟨D5, hq5, hf⟩ := own_bind hf
  obtain ⟨T5, h5, L5, X5, e5, O5, N5, st5⟩ := stBW X4 hx hZ e4 O4 N4 hq5 rfl (g := (mkF m 42 #[.val (.long j0), .second, .val (.long j2), .second, .val (.int i4), .val (.int i5), .val (.ref (n0 + a1)), .unset] [(.int ((((j2.toUInt64 >>> ((24 : Int32) &&& 0x3f).toInt64.toUInt64).toInt64).toInt32).toInt8.toInt32)), (.int (3 : Int32)), (.ref (n0 + a1))])) rfl rfl (hb hby at_42)
  obtain ⟨D6, hq6, hf⟩ := own_bind hf
  obtain ⟨T6, h6, L6, X6, e6, O6, N6, st6⟩ := stBW X5 hx hZ e5 O5 N5 hq6 rfl (g := (mkF m 52 #[.val (.long j0), .second, .val (.long j2), .second, .val (.int i4), .val (.int i5), .val (.ref (n0 + a1)), .unset] [(.int ((((j2.toUInt64 >>> ((32 : Int32) &&& 0x3f).toInt64.toUInt64).toInt64).toInt32).toInt8.toInt32)), (.int (4 : Int32)), (.ref (n0 + a1))])) rfl rfl (hb hby at_52)
  obtain ⟨D7, hq7, hf⟩ := own_bind hf
  obtain ⟨T7, h7, L7, X7, e7, O7, N7, st7⟩ := stBW X6 hx hZ e6 O6 N6 hq7 rfl (g := (mkF m 62 #[.val (.long j0), .second, .val (.long j2), .second, .val (.int i4), .val (.int i5), .val (.ref (n0 + a1)), .unset] [(.int ((((j2.toUInt64 >>> ((40 : Int32) &&& 0x3f).toInt64.toUInt64).toInt64).toInt32).toInt8.toInt32)), (.int (5 : Int32)), (.ref (n0 + a1))])) rfl rfl (hb hby at_62)
  obtain ⟨D8, hq8, hf⟩ := own_bind hf
  obtain ⟨T8, h8, L8, X8, e8, O8, N8, st8⟩ := stBW X7 hx hZ e7 O7 N7 hq8 rfl (g := (mkF m 73 #[.val (.long j0), .second, .val (.long j2), .second, .val (.int i4), .val (.int i5), .val (.ref (n0 + a1)), .unset] [(.int ((((j2.toUInt64 >>> ((48 : Int32) &&& 0x3f).toInt64.toUInt64).toInt64).toInt32).toInt8.toInt32)), (.int (6 : Int32)), (.ref (n0 + a1))])) rfl rfl (hb hby at_73)
  obtain ⟨D9, hq9, hf⟩ := own_bind hf
  obtain ⟨T9, h9, L9, X9, e9, O9, N9, st9⟩ := stBW X8 hx hZ e8 O8 N8 hq9 rfl (g := (mkF m 84 #[.val (.long j0), .second, .val (.long j2), .second, .val (.int i4), .val (.int i5), .val (.ref (n0 + a1)), .unset] [(.int ((((j2.toUInt64 >>> ((56 : Int32) &&& 0x3f).toInt64.toUInt64).toInt64).toInt32).toInt8.toInt32)), (.int (7 : Int32)), (.ref (n0 + a1))])) rfl rfl (hb hby at_84)
  obtain ⟨D10, hq10, hf⟩ := own_bind hf
  obtain ⟨T10, h10, L10, X10, e10, O10, N10, st10⟩ := stBW X9 hx hZ e9 O9 N9 hq10 rfl (g := (mkF m 92 #[.val (.long j0), .second, .val (.long j2), .second, .val (.int i4), .val (.int i5), .val (.ref (n0 + a1)), .unset] [(.int (i4.toInt8.toInt32)), (.int (8 : Int32)), (.ref (n0 + a1))])) rfl rfl (hb hby at_92)
  obtain ⟨D11, hq11, hf⟩ := own_bind hf
  obtain ⟨T11, h11, L11, X11, e11, O11, N11, st11⟩ := stBW X10 hx hZ e10 O10 N10 hq11 rfl (g := (mkF m 103 #[.val (.long j0), .second, .val (.long j2), .second, .val (.int i4), .val (.int i5), .val (.ref (n0 + a1)), .unset] [(.int (((i4.toUInt32 >>> ((8 : Int32) &&& 31).toUInt32).toInt32).toInt8.toInt32)), (.int (9 : Int32)), (.ref (n0 + a1))])) rfl rfl (hb hby at_103)
  obtain ⟨D12, hq12, hf⟩ := own_bind hf
  obtain ⟨T12, h12, L12, X12, e12, O12, N12, st12⟩ := stBW X11 hx hZ e11 O11 N11 hq12 rfl (g := (mkF m 114 #[.val (.long j0), .second, .val (.long j2), .second, .val (.int i4), .val (.int i5), .val (.ref (n0 + a1)), .unset] [(.int (((i4.toUInt32 >>> ((16 : Int32) &&& 31).toUInt32).toInt32).toInt8.toInt32)), (.int (10 : Int32)), (.ref (n0 + a1))])) rfl rfl (hb hby at_114)
  obtain ⟨D13, hq13, hf⟩ := own_bind hf
  obtain ⟨T13, h13, L13, X13, e13, O13, N13, st13⟩ := stBW X12 hx hZ e12 O12 N12 hq13 rfl (g := (mkF m 125 #[.val (.long j0), .second, .val (.long j2), .second, .val (.int i4), .val (.int i5), .val (.ref (n0 + a1)), .unset] [(.int (((i4.toUInt32 >>> ((24 : Int32) &&& 31).toUInt32).toInt32).toInt8.toInt32)), (.int (11 : Int32)), (.ref (n0 + a1))])) rfl rfl (hb hby at_125)
  obtain ⟨v14, hv14, hf⟩ := own_letE hf
  obtain ⟨D15, hq15, hf⟩ := own_bind hf
  obtain ⟨T15, h15, L15, X15, e15, O15, N15, st15⟩ := stBW X13 hx hZ e13 O13 N13 hq15 rfl (g := (mkF m 142 #[.val (.long j0), .second, .val (.long j2), .second, .val (.int i4), .val (.int i5), .val (.ref (n0 + a1)), .val (.int v14)] [(.int ((j0.toInt32).toInt8.toInt32)), (.int v14), (.ref (n0 + a1))])) rfl rfl (hb hby at_142)
  obtain ⟨D16, hq16, hf⟩ := own_bind hf
  obtain ⟨T16, h16, L16, X16, e16, O16, N16, st16⟩ := stBW X15 hx hZ e15 O15 N15 hq16 rfl (g := (mkF m 155 #[.val (.long j0), .second, .val (.long j2), .second, .val (.int i4), .val (.int i5), .val (.ref (n0 + a1)), .val (.int v14)] [(.int ((((j0.toUInt64 >>> ((8 : Int32) &&& 0x3f).toInt64.toUInt64).toInt64).toInt32).toInt8.toInt32)), (.int (v14 + (1 : Int32))), (.ref (n0 + a1))])) rfl rfl (hb hby at_155)
  obtain ⟨D17, hq17, hf⟩ := own_bind hf
  obtain ⟨T17, h17, L17, X17, e17, O17, N17, st17⟩ := stBW X16 hx hZ e16 O16 N16 hq17 rfl (g := (mkF m 168 #[.val (.long j0), .second, .val (.long j2), .second, .val (.int i4), .val (.int i5), .val (.ref (n0 + a1)), .val (.int v14)] [(.int ((((j0.toUInt64 >>> ((16 : Int32) &&& 0x3f).toInt64.toUInt64).toInt64).toInt32).toInt8.toInt32)), (.int (v14 + (2 : Int32))), (.ref (n0 + a1))])) rfl rfl (hb hby at_168)
  obtain ⟨D18, hq18, hf⟩ := own_bind hf
  obtain ⟨T18, h18, L18, X18, e18, O18, N18, st18⟩ := stBW X17 hx hZ e17 O17 N17 hq18 rfl (g := (mkF m 181 #[.val (.long j0), .second, .val (.long j2), .second, .val (.int i4), .val (.int i5), .val (.ref (n0 + a1)), .val (.int v14)] [(.int ((((j0.toUInt64 >>> ((24 : Int32) &&& 0x3f).toInt64.toUInt64).toInt64).toInt32).toInt8.toInt32)), (.int (v14 + (3 : Int32))), (.ref (n0 + a1))])) rfl rfl (hb hby at_181)
  obtain ⟨D19, hq19, hf⟩ := own_bind hf
  obtain ⟨T19, h19, L19, X19, e19, O19, N19, st19⟩ := stBW X18 hx hZ e18 O18 N18 hq19 rfl (g := (mkF m 194 #[.val (.long j0), .second, .val (.long j2), .second, .val (.int i4), .val (.int i5), .val (.ref (n0 + a1)), .val (.int v14)] [(.int ((((j0.toUInt64 >>> ((32 : Int32) &&& 0x3f).toInt64.toUInt64).toInt64).toInt32).toInt8.toInt32)), (.int (v14 + (4 : Int32))), (.ref (n0 + a1))])) rfl rfl (hb hby at_194)
  obtain ⟨D20, hq20, hf⟩ := own_bind hf
  obtain ⟨T20, h20, L20, X20, e20, O20, N20, st20⟩ := stBW X19 hx hZ e19 O19 N19 hq20 rfl (g := (mkF m 207 #[.val (.long j0), .second, .val (.long j2), .second, .val (.int i4), .val (.int i5), .val (.ref (n0 + a1)), .val (.int v14)] [(.int ((((j0.toUInt64 >>> ((40 : Int32) &&& 0x3f).toInt64.toUInt64).toInt64).toInt32).toInt8.toInt32)), (.int (v14 + (5 : Int32))), (.ref (n0 + a1))])) rfl rfl (hb hby at_207)
  obtain ⟨D21, hq21, hf⟩ := own_bind hf
  obtain ⟨T21, h21, L21, X21, e21, O21, N21, st21⟩ := stBW X20 hx hZ e20 O20 N20 hq21 rfl (g := (mkF m 221 #[.val (.long j0), .second, .val (.long j2), .second, .val (.int i4), .val (.int i5), .val (.ref (n0 + a1)), .val (.int v14)] [(.int ((((j0.toUInt64 >>> ((48 : Int32) &&& 0x3f).toInt64.toUInt64).toInt64).toInt32).toInt8.toInt32)), (.int (v14 + (6 : Int32))), (.ref (n0 + a1))])) rfl rfl (hb hby at_221)
  obtain ⟨D22, hq22, hf⟩ := own_bind hf
  obtain ⟨T22, h22, L22, X22, e22, O22, N22, st22⟩ := stBW X21 hx hZ e21 O21 N21 hq22 rfl (g := (mkF m 235 #[.val (.long j0), .second, .val (.long j2), .second, .val (.int i4), .val (.int i5), .val (.ref (n0 + a1)), .val (.int v14)] [(.int ((((j0.toUInt64 >>> ((56 : Int32) &&& 0x3f).toInt64.toUInt64).toInt64).toInt32).toInt8.toInt32)), (.int (v14 + (7 : Int32))), (.ref (n0 + a1))])) rfl rfl (hb hby at_235)
  obtain ⟨⟨x24, D23⟩, hq23, hf⟩ := own_bind hf
  obtain ⟨_, rfl, hf⟩ := own_letE hf
  obtain ⟨_, rfl, hf⟩ := own_letE hf
  obtain ⟨T23, h23, L23, X23, e23, O23, N23, st23⟩ := callSW X22 hx hZ (y := (⟨"com/example/whorl/whorl/hpke/Field25519", "littleEndian64", "([BI)J"⟩ : MethodName)) hown (hw _ (List.mem_of_getElem? (i := 2) rfl)) (hw _ (List.mem_of_getElem? (i := 3) rfl)) (hw _ (List.mem_of_getElem? (i := 4) rfl)) (hw _ (List.mem_of_getElem? (i := 5) rfl)) (by decide) e22 O22 N22 (as' := [(.ref (n0 + a1)), (.int v14)]) (ct1 hw hq23) (W := 0) (kc := 0) (ks := 0) rfl rfl (by decide) (by decide) (g := (mkF m 240 #[.val (.long j0), .second, .val (.long j2), .second, .val (.int i4), .val (.int i5), .val (.ref (n0 + a1)), .val (.int v14)] [(.int v14), (.ref (n0 + a1))])) rfl (by rw [hml]; rfl) (rest := []) (lenOf pd_0 rfl) rfl (by show 2 * 0 + _ ≤ _; exact Nat.le_of_eq rfl) (hb hby at_240) (by show _ + 0 ≤ 16; omega) (by show _ + 0 ≤ 128; omega)
  refine Gl.on (B := T23.setTop (mkF m 245 #[.val (.long j0), .second, .val (.long j2), .second, .val (.int i4), .val (.int i5), .val (.ref (n0 + a1)), .val (.int v14)] [(.int (lcmpW x24 j0))])) (fun t k => ?_) ?_
  · show Steps p.tables e below (T0.setTop (mkF m 0 #[.val (.long j0), .second, .val (.long j2), .second, .val (.int i4), .val (.int i5), .unset, .unset] [])) _
    refine XS.bipush X0.here hx rfl (hb hby at_0) ?_
    show Steps p.tables e below (T0.setTop (mkF m 2 #[.val (.long j0), .second, .val (.long j2), .second, .val (.int i4), .val (.int i5), .unset, .unset] [(.int (12 : Int32))])) _
    refine st1 _ ?_
    show Steps p.tables e below (T1.setTop (mkF m 4 #[.val (.long j0), .second, .val (.long j2), .second, .val (.int i4), .val (.int i5), .unset, .unset] [(.ref (n0 + a1))])) _
    refine XS.astore X1.here hx rfl (hb hby at_4) rfl rfl (l' := #[.val (.long j0), .second, .val (.long j2), .second, .val (.int i4), .val (.int i5), .val (.ref (n0 + a1)), .unset]) rfl ?_
    show Steps p.tables e below (T1.setTop (mkF m 6 #[.val (.long j0), .second, .val (.long j2), .second, .val (.int i4), .val (.int i5), .val (.ref (n0 + a1)), .unset] [])) _
    refine XS.aload X1.here hx rfl (hb hby at_6) rfl rfl ?_
    show Steps p.tables e below (T1.setTop (mkF m 8 #[.val (.long j0), .second, .val (.long j2), .second, .val (.int i4), .val (.int i5), .val (.ref (n0 + a1)), .unset] [(.ref (n0 + a1))])) _
    refine XS.iconst X1.here hx rfl (hb hby at_8) ?_
    show Steps p.tables e below (T1.setTop (mkF m 9 #[.val (.long j0), .second, .val (.long j2), .second, .val (.int i4), .val (.int i5), .val (.ref (n0 + a1)), .unset] [(.int (0 : Int32)), (.ref (n0 + a1))])) _
    refine XS.lloadN X1.here hx rfl (hb hby at_9) rfl ?_
    show Steps p.tables e below (T1.setTop (mkF m 10 #[.val (.long j0), .second, .val (.long j2), .second, .val (.int i4), .val (.int i5), .val (.ref (n0 + a1)), .unset] [(.long j2), (.int (0 : Int32)), (.ref (n0 + a1))])) _
    refine XS.l2i X1.here hx rfl (hb hby at_10) rfl ?_
    show Steps p.tables e below (T1.setTop (mkF m 11 #[.val (.long j0), .second, .val (.long j2), .second, .val (.int i4), .val (.int i5), .val (.ref (n0 + a1)), .unset] [(.int (j2.toInt32)), (.int (0 : Int32)), (.ref (n0 + a1))])) _
    refine XS.i2b X1.here hx rfl (hb hby at_11) rfl ?_
    show Steps p.tables e below (T1.setTop (mkF m 12 #[.val (.long j0), .second, .val (.long j2), .second, .val (.int i4), .val (.int i5), .val (.ref (n0 + a1)), .unset] [(.int ((j2.toInt32).toInt8.toInt32)), (.int (0 : Int32)), (.ref (n0 + a1))])) _
    refine st2 _ ?_
    show Steps p.tables e below (T2.setTop (mkF m 13 #[.val (.long j0), .second, .val (.long j2), .second, .val (.int i4), .val (.int i5), .val (.ref (n0 + a1)), .unset] [])) _
    refine XS.aload X2.here hx rfl (hb hby at_13) rfl rfl ?_
    show Steps p.tables e below (T2.setTop (mkF m 15 #[.val (.long j0), .second, .val (.long j2), .second, .val (.int i4), .val (.int i5), .val (.ref (n0 + a1)), .unset] [(.ref (n0 + a1))])) _
    refine XS.iconst X2.here hx rfl (hb hby at_15) ?_
    show Steps p.tables e below (T2.setTop (mkF m 16 #[.val (.long j0), .second, .val (.long j2), .second, .val (.int i4), .val (.int i5), .val (.ref (n0 + a1)), .unset] [(.int (1 : Int32)), (.ref (n0 + a1))])) _
    refine XS.lloadN X2.here hx rfl (hb hby at_16) rfl ?_
    show Steps p.tables e below (T2.setTop (mkF m 17 #[.val (.long j0), .second, .val (.long j2), .second, .val (.int i4), .val (.int i5), .val (.ref (n0 + a1)), .unset] [(.long j2), (.int (1 : Int32)), (.ref (n0 + a1))])) _
    refine XS.bipush X2.here hx rfl (hb hby at_17) ?_
    show Steps p.tables e below (T2.setTop (mkF m 19 #[.val (.long j0), .second, .val (.long j2), .second, .val (.int i4), .val (.int i5), .val (.ref (n0 + a1)), .unset] [(.int (8 : Int32)), (.long j2), (.int (1 : Int32)), (.ref (n0 + a1))])) _
    refine XS.lushr X2.here hx rfl (hb hby at_19) rfl ?_
    show Steps p.tables e below (T2.setTop (mkF m 20 #[.val (.long j0), .second, .val (.long j2), .second, .val (.int i4), .val (.int i5), .val (.ref (n0 + a1)), .unset] [(.long ((j2.toUInt64 >>> ((8 : Int32) &&& 0x3f).toInt64.toUInt64).toInt64)), (.int (1 : Int32)), (.ref (n0 + a1))])) _
    refine XS.l2i X2.here hx rfl (hb hby at_20) rfl ?_
    show Steps p.tables e below (T2.setTop (mkF m 21 #[.val (.long j0), .second, .val (.long j2), .second, .val (.int i4), .val (.int i5), .val (.ref (n0 + a1)), .unset] [(.int (((j2.toUInt64 >>> ((8 : Int32) &&& 0x3f).toInt64.toUInt64).toInt64).toInt32)), (.int (1 : Int32)), (.ref (n0 + a1))])) _
    refine XS.i2b X2.here hx rfl (hb hby at_21) rfl ?_
    show Steps p.tables e below (T2.setTop (mkF m 22 #[.val (.long j0), .second, .val (.long j2), .second, .val (.int i4), .val (.int i5), .val (.ref (n0 + a1)), .unset] [(.int ((((j2.toUInt64 >>> ((8 : Int32) &&& 0x3f).toInt64.toUInt64).toInt64).toInt32).toInt8.toInt32)), (.int (1 : Int32)), (.ref (n0 + a1))])) _
    refine st3 _ ?_
    show Steps p.tables e below (T3.setTop (mkF m 23 #[.val (.long j0), .second, .val (.long j2), .second, .val (.int i4), .val (.int i5), .val (.ref (n0 + a1)), .unset] [])) _
    refine XS.aload X3.here hx rfl (hb hby at_23) rfl rfl ?_
    show Steps p.tables e below (T3.setTop (mkF m 25 #[.val (.long j0), .second, .val (.long j2), .second, .val (.int i4), .val (.int i5), .val (.ref (n0 + a1)), .unset] [(.ref (n0 + a1))])) _
    refine XS.iconst X3.here hx rfl (hb hby at_25) ?_
    show Steps p.tables e below (T3.setTop (mkF m 26 #[.val (.long j0), .second, .val (.long j2), .second, .val (.int i4), .val (.int i5), .val (.ref (n0 + a1)), .unset] [(.int (2 : Int32)), (.ref (n0 + a1))])) _
    refine XS.lloadN X3.here hx rfl (hb hby at_26) rfl ?_
    show Steps p.tables e below (T3.setTop (mkF m 27 #[.val (.long j0), .second, .val (.long j2), .second, .val (.int i4), .val (.int i5), .val (.ref (n0 + a1)), .unset] [(.long j2), (.int (2 : Int32)), (.ref (n0 + a1))])) _
    refine XS.bipush X3.here hx rfl (hb hby at_27) ?_
    show Steps p.tables e below (T3.setTop (mkF m 29 #[.val (.long j0), .second, .val (.long j2), .second, .val (.int i4), .val (.int i5), .val (.ref (n0 + a1)), .unset] [(.int (16 : Int32)), (.long j2), (.int (2 : Int32)), (.ref (n0 + a1))])) _
    refine XS.lushr X3.here hx rfl (hb hby at_29) rfl ?_
    show Steps p.tables e below (T3.setTop (mkF m 30 #[.val (.long j0), .second, .val (.long j2), .second, .val (.int i4), .val (.int i5), .val (.ref (n0 + a1)), .unset] [(.long ((j2.toUInt64 >>> ((16 : Int32) &&& 0x3f).toInt64.toUInt64).toInt64)), (.int (2 : Int32)), (.ref (n0 + a1))])) _
    refine XS.l2i X3.here hx rfl (hb hby at_30) rfl ?_
    show Steps p.tables e below (T3.setTop (mkF m 31 #[.val (.long j0), .second, .val (.long j2), .second, .val (.int i4), .val (.int i5), .val (.ref (n0 + a1)), .unset] [(.int (((j2.toUInt64 >>> ((16 : Int32) &&& 0x3f).toInt64.toUInt64).toInt64).toInt32)), (.int (2 : Int32)), (.ref (n0 + a1))])) _
    refine XS.i2b X3.here hx rfl (hb hby at_31) rfl ?_
    show Steps p.tables e below (T3.setTop (mkF m 32 #[.val (.long j0), .second, .val (.long j2), .second, .val (.int i4), .val (.int i5), .val (.ref (n0 + a1)), .unset] [(.int ((((j2.toUInt64 >>> ((16 : Int32) &&& 0x3f).toInt64.toUInt64).toInt64).toInt32).toInt8.toInt32)), (.int (2 : Int32)), (.ref (n0 + a1))])) _
    refine st4 _ ?_
    show Steps p.tables e below (T4.setTop (mkF m 33 #[.val (.long j0), .second, .val (.long j2), .second, .val (.int i4), .val (.int i5), .val (.ref (n0 + a1)), .unset] [])) _
    refine XS.aload X4.here hx rfl (hb hby at_33) rfl rfl ?_
    show Steps p.tables e below (T4.setTop (mkF m 35 #[.val (.long j0), .second, .val (.long j2), .second, .val (.int i4), .val (.int i5), .val (.ref (n0 + a1)), .unset] [(.ref (n0 + a1))])) _
    refine XS.iconst X4.here hx rfl (hb hby at_35) ?_
    show Steps p.tables e below (T4.setTop (mkF m 36 #[.val (.long j0), .second, .val (.long j2), .second, .val (.int i4), .val (.int i5), .val (.ref (n0 + a1)), .unset] [(.int (3 : Int32)), (.ref (n0 + a1))])) _
    refine XS.lloadN X4.here hx rfl (hb hby at_36) rfl ?_
    show Steps p.tables e below (T4.setTop (mkF m 37 #[.val (.long j0), .second, .val (.long j2), .second, .val (.int i4), .val (.int i5), .val (.ref (n0 + a1)), .unset] [(.long j2), (.int (3 : Int32)), (.ref (n0 + a1))])) _
    refine XS.bipush X4.here hx rfl (hb hby at_37) ?_
    show Steps p.tables e below (T4.setTop (mkF m 39 #[.val (.long j0), .second, .val (.long j2), .second, .val (.int i4), .val (.int i5), .val (.ref (n0 + a1)), .unset] [(.int (24 : Int32)), (.long j2), (.int (3 : Int32)), (.ref (n0 + a1))])) _
    refine XS.lushr X4.here hx rfl (hb hby at_39) rfl ?_
    show Steps p.tables e below (T4.setTop (mkF m 40 #[.val (.long j0), .second, .val (.long j2), .second, .val (.int i4), .val (.int i5), .val (.ref (n0 + a1)), .unset] [(.long ((j2.toUInt64 >>> ((24 : Int32) &&& 0x3f).toInt64.toUInt64).toInt64)), (.int (3 : Int32)), (.ref (n0 + a1))])) _
    refine XS.l2i X4.here hx rfl (hb hby at_40) rfl ?_
    show Steps p.tables e below (T4.setTop (mkF m 41 #[.val (.long j0), .second, .val (.long j2), .second, .val (.int i4), .val (.int i5), .val (.ref (n0 + a1)), .unset] [(.int (((j2.toUInt64 >>> ((24 : Int32) &&& 0x3f).toInt64.toUInt64).toInt64).toInt32)), (.int (3 : Int32)), (.ref (n0 + a1))])) _
    refine XS.i2b X4.here hx rfl (hb hby at_41) rfl ?_
    show Steps p.tables e below (T4.setTop (mkF m 42 #[.val (.long j0), .second, .val (.long j2), .second, .val (.int i4), .val (.int i5), .val (.ref (n0 + a1)), .unset] [(.int ((((j2.toUInt64 >>> ((24 : Int32) &&& 0x3f).toInt64.toUInt64).toInt64).toInt32).toInt8.toInt32)), (.int (3 : Int32)), (.ref (n0 + a1))])) _
    refine st5 _ ?_
    show Steps p.tables e below (T5.setTop (mkF m 43 #[.val (.long j0), .second, .val (.long j2), .second, .val (.int i4), .val (.int i5), .val (.ref (n0 + a1)), .unset] [])) _
    refine XS.aload X5.here hx rfl (hb hby at_43) rfl rfl ?_
    show Steps p.tables e below (T5.setTop (mkF m 45 #[.val (.long j0), .second, .val (.long j2), .second, .val (.int i4), .val (.int i5), .val (.ref (n0 + a1)), .unset] [(.ref (n0 + a1))])) _
    refine XS.iconst X5.here hx rfl (hb hby at_45) ?_
    show Steps p.tables e below (T5.setTop (mkF m 46 #[.val (.long j0), .second, .val (.long j2), .second, .val (.int i4), .val (.int i5), .val (.ref (n0 + a1)), .unset] [(.int (4 : Int32)), (.ref (n0 + a1))])) _
    refine XS.lloadN X5.here hx rfl (hb hby at_46) rfl ?_
    show Steps p.tables e below (T5.setTop (mkF m 47 #[.val (.long j0), .second, .val (.long j2), .second, .val (.int i4), .val (.int i5), .val (.ref (n0 + a1)), .unset] [(.long j2), (.int (4 : Int32)), (.ref (n0 + a1))])) _
    refine XS.bipush X5.here hx rfl (hb hby at_47) ?_
    show Steps p.tables e below (T5.setTop (mkF m 49 #[.val (.long j0), .second, .val (.long j2), .second, .val (.int i4), .val (.int i5), .val (.ref (n0 + a1)), .unset] [(.int (32 : Int32)), (.long j2), (.int (4 : Int32)), (.ref (n0 + a1))])) _
    refine XS.lushr X5.here hx rfl (hb hby at_49) rfl ?_
    show Steps p.tables e below (T5.setTop (mkF m 50 #[.val (.long j0), .second, .val (.long j2), .second, .val (.int i4), .val (.int i5), .val (.ref (n0 + a1)), .unset] [(.long ((j2.toUInt64 >>> ((32 : Int32) &&& 0x3f).toInt64.toUInt64).toInt64)), (.int (4 : Int32)), (.ref (n0 + a1))])) _
    refine XS.l2i X5.here hx rfl (hb hby at_50) rfl ?_
    show Steps p.tables e below (T5.setTop (mkF m 51 #[.val (.long j0), .second, .val (.long j2), .second, .val (.int i4), .val (.int i5), .val (.ref (n0 + a1)), .unset] [(.int (((j2.toUInt64 >>> ((32 : Int32) &&& 0x3f).toInt64.toUInt64).toInt64).toInt32)), (.int (4 : Int32)), (.ref (n0 + a1))])) _
    refine XS.i2b X5.here hx rfl (hb hby at_51) rfl ?_
    show Steps p.tables e below (T5.setTop (mkF m 52 #[.val (.long j0), .second, .val (.long j2), .second, .val (.int i4), .val (.int i5), .val (.ref (n0 + a1)), .unset] [(.int ((((j2.toUInt64 >>> ((32 : Int32) &&& 0x3f).toInt64.toUInt64).toInt64).toInt32).toInt8.toInt32)), (.int (4 : Int32)), (.ref (n0 + a1))])) _
    refine st6 _ ?_
    show Steps p.tables e below (T6.setTop (mkF m 53 #[.val (.long j0), .second, .val (.long j2), .second, .val (.int i4), .val (.int i5), .val (.ref (n0 + a1)), .unset] [])) _
    refine XS.aload X6.here hx rfl (hb hby at_53) rfl rfl ?_
    show Steps p.tables e below (T6.setTop (mkF m 55 #[.val (.long j0), .second, .val (.long j2), .second, .val (.int i4), .val (.int i5), .val (.ref (n0 + a1)), .unset] [(.ref (n0 + a1))])) _
    refine XS.iconst X6.here hx rfl (hb hby at_55) ?_
    show Steps p.tables e below (T6.setTop (mkF m 56 #[.val (.long j0), .second, .val (.long j2), .second, .val (.int i4), .val (.int i5), .val (.ref (n0 + a1)), .unset] [(.int (5 : Int32)), (.ref (n0 + a1))])) _
    refine XS.lloadN X6.here hx rfl (hb hby at_56) rfl ?_
    show Steps p.tables e below (T6.setTop (mkF m 57 #[.val (.long j0), .second, .val (.long j2), .second, .val (.int i4), .val (.int i5), .val (.ref (n0 + a1)), .unset] [(.long j2), (.int (5 : Int32)), (.ref (n0 + a1))])) _
    refine XS.bipush X6.here hx rfl (hb hby at_57) ?_
    show Steps p.tables e below (T6.setTop (mkF m 59 #[.val (.long j0), .second, .val (.long j2), .second, .val (.int i4), .val (.int i5), .val (.ref (n0 + a1)), .unset] [(.int (40 : Int32)), (.long j2), (.int (5 : Int32)), (.ref (n0 + a1))])) _
    refine XS.lushr X6.here hx rfl (hb hby at_59) rfl ?_
    show Steps p.tables e below (T6.setTop (mkF m 60 #[.val (.long j0), .second, .val (.long j2), .second, .val (.int i4), .val (.int i5), .val (.ref (n0 + a1)), .unset] [(.long ((j2.toUInt64 >>> ((40 : Int32) &&& 0x3f).toInt64.toUInt64).toInt64)), (.int (5 : Int32)), (.ref (n0 + a1))])) _
    refine XS.l2i X6.here hx rfl (hb hby at_60) rfl ?_
    show Steps p.tables e below (T6.setTop (mkF m 61 #[.val (.long j0), .second, .val (.long j2), .second, .val (.int i4), .val (.int i5), .val (.ref (n0 + a1)), .unset] [(.int (((j2.toUInt64 >>> ((40 : Int32) &&& 0x3f).toInt64.toUInt64).toInt64).toInt32)), (.int (5 : Int32)), (.ref (n0 + a1))])) _
    refine XS.i2b X6.here hx rfl (hb hby at_61) rfl ?_
    show Steps p.tables e below (T6.setTop (mkF m 62 #[.val (.long j0), .second, .val (.long j2), .second, .val (.int i4), .val (.int i5), .val (.ref (n0 + a1)), .unset] [(.int ((((j2.toUInt64 >>> ((40 : Int32) &&& 0x3f).toInt64.toUInt64).toInt64).toInt32).toInt8.toInt32)), (.int (5 : Int32)), (.ref (n0 + a1))])) _
    refine st7 _ ?_
    show Steps p.tables e below (T7.setTop (mkF m 63 #[.val (.long j0), .second, .val (.long j2), .second, .val (.int i4), .val (.int i5), .val (.ref (n0 + a1)), .unset] [])) _
    refine XS.aload X7.here hx rfl (hb hby at_63) rfl rfl ?_
    show Steps p.tables e below (T7.setTop (mkF m 65 #[.val (.long j0), .second, .val (.long j2), .second, .val (.int i4), .val (.int i5), .val (.ref (n0 + a1)), .unset] [(.ref (n0 + a1))])) _
    refine XS.bipush X7.here hx rfl (hb hby at_65) ?_
    show Steps p.tables e below (T7.setTop (mkF m 67 #[.val (.long j0), .second, .val (.long j2), .second, .val (.int i4), .val (.int i5), .val (.ref (n0 + a1)), .unset] [(.int (6 : Int32)), (.ref (n0 + a1))])) _
    refine XS.lloadN X7.here hx rfl (hb hby at_67) rfl ?_
    show Steps p.tables e below (T7.setTop (mkF m 68 #[.val (.long j0), .second, .val (.long j2), .second, .val (.int i4), .val (.int i5), .val (.ref (n0 + a1)), .unset] [(.long j2), (.int (6 : Int32)), (.ref (n0 + a1))])) _
    refine XS.bipush X7.here hx rfl (hb hby at_68) ?_
    show Steps p.tables e below (T7.setTop (mkF m 70 #[.val (.long j0), .second, .val (.long j2), .second, .val (.int i4), .val (.int i5), .val (.ref (n0 + a1)), .unset] [(.int (48 : Int32)), (.long j2), (.int (6 : Int32)), (.ref (n0 + a1))])) _
    refine XS.lushr X7.here hx rfl (hb hby at_70) rfl ?_
    show Steps p.tables e below (T7.setTop (mkF m 71 #[.val (.long j0), .second, .val (.long j2), .second, .val (.int i4), .val (.int i5), .val (.ref (n0 + a1)), .unset] [(.long ((j2.toUInt64 >>> ((48 : Int32) &&& 0x3f).toInt64.toUInt64).toInt64)), (.int (6 : Int32)), (.ref (n0 + a1))])) _
    refine XS.l2i X7.here hx rfl (hb hby at_71) rfl ?_
    show Steps p.tables e below (T7.setTop (mkF m 72 #[.val (.long j0), .second, .val (.long j2), .second, .val (.int i4), .val (.int i5), .val (.ref (n0 + a1)), .unset] [(.int (((j2.toUInt64 >>> ((48 : Int32) &&& 0x3f).toInt64.toUInt64).toInt64).toInt32)), (.int (6 : Int32)), (.ref (n0 + a1))])) _
    refine XS.i2b X7.here hx rfl (hb hby at_72) rfl ?_
    show Steps p.tables e below (T7.setTop (mkF m 73 #[.val (.long j0), .second, .val (.long j2), .second, .val (.int i4), .val (.int i5), .val (.ref (n0 + a1)), .unset] [(.int ((((j2.toUInt64 >>> ((48 : Int32) &&& 0x3f).toInt64.toUInt64).toInt64).toInt32).toInt8.toInt32)), (.int (6 : Int32)), (.ref (n0 + a1))])) _
    refine st8 _ ?_
    show Steps p.tables e below (T8.setTop (mkF m 74 #[.val (.long j0), .second, .val (.long j2), .second, .val (.int i4), .val (.int i5), .val (.ref (n0 + a1)), .unset] [])) _
    refine XS.aload X8.here hx rfl (hb hby at_74) rfl rfl ?_
    show Steps p.tables e below (T8.setTop (mkF m 76 #[.val (.long j0), .second, .val (.long j2), .second, .val (.int i4), .val (.int i5), .val (.ref (n0 + a1)), .unset] [(.ref (n0 + a1))])) _
    refine XS.bipush X8.here hx rfl (hb hby at_76) ?_
    show Steps p.tables e below (T8.setTop (mkF m 78 #[.val (.long j0), .second, .val (.long j2), .second, .val (.int i4), .val (.int i5), .val (.ref (n0 + a1)), .unset] [(.int (7 : Int32)), (.ref (n0 + a1))])) _
    refine XS.lloadN X8.here hx rfl (hb hby at_78) rfl ?_
    show Steps p.tables e below (T8.setTop (mkF m 79 #[.val (.long j0), .second, .val (.long j2), .second, .val (.int i4), .val (.int i5), .val (.ref (n0 + a1)), .unset] [(.long j2), (.int (7 : Int32)), (.ref (n0 + a1))])) _
    refine XS.bipush X8.here hx rfl (hb hby at_79) ?_
    show Steps p.tables e below (T8.setTop (mkF m 81 #[.val (.long j0), .second, .val (.long j2), .second, .val (.int i4), .val (.int i5), .val (.ref (n0 + a1)), .unset] [(.int (56 : Int32)), (.long j2), (.int (7 : Int32)), (.ref (n0 + a1))])) _
    refine XS.lushr X8.here hx rfl (hb hby at_81) rfl ?_
    show Steps p.tables e below (T8.setTop (mkF m 82 #[.val (.long j0), .second, .val (.long j2), .second, .val (.int i4), .val (.int i5), .val (.ref (n0 + a1)), .unset] [(.long ((j2.toUInt64 >>> ((56 : Int32) &&& 0x3f).toInt64.toUInt64).toInt64)), (.int (7 : Int32)), (.ref (n0 + a1))])) _
    refine XS.l2i X8.here hx rfl (hb hby at_82) rfl ?_
    show Steps p.tables e below (T8.setTop (mkF m 83 #[.val (.long j0), .second, .val (.long j2), .second, .val (.int i4), .val (.int i5), .val (.ref (n0 + a1)), .unset] [(.int (((j2.toUInt64 >>> ((56 : Int32) &&& 0x3f).toInt64.toUInt64).toInt64).toInt32)), (.int (7 : Int32)), (.ref (n0 + a1))])) _
    refine XS.i2b X8.here hx rfl (hb hby at_83) rfl ?_
    show Steps p.tables e below (T8.setTop (mkF m 84 #[.val (.long j0), .second, .val (.long j2), .second, .val (.int i4), .val (.int i5), .val (.ref (n0 + a1)), .unset] [(.int ((((j2.toUInt64 >>> ((56 : Int32) &&& 0x3f).toInt64.toUInt64).toInt64).toInt32).toInt8.toInt32)), (.int (7 : Int32)), (.ref (n0 + a1))])) _
    refine st9 _ ?_
    show Steps p.tables e below (T9.setTop (mkF m 85 #[.val (.long j0), .second, .val (.long j2), .second, .val (.int i4), .val (.int i5), .val (.ref (n0 + a1)), .unset] [])) _
    refine XS.aload X9.here hx rfl (hb hby at_85) rfl rfl ?_
    show Steps p.tables e below (T9.setTop (mkF m 87 #[.val (.long j0), .second, .val (.long j2), .second, .val (.int i4), .val (.int i5), .val (.ref (n0 + a1)), .unset] [(.ref (n0 + a1))])) _
    refine XS.bipush X9.here hx rfl (hb hby at_87) ?_
    show Steps p.tables e below (T9.setTop (mkF m 89 #[.val (.long j0), .second, .val (.long j2), .second, .val (.int i4), .val (.int i5), .val (.ref (n0 + a1)), .unset] [(.int (8 : Int32)), (.ref (n0 + a1))])) _
    refine XS.iload X9.here hx rfl (hb hby at_89) rfl ?_
    show Steps p.tables e below (T9.setTop (mkF m 91 #[.val (.long j0), .second, .val (.long j2), .second, .val (.int i4), .val (.int i5), .val (.ref (n0 + a1)), .unset] [(.int i4), (.int (8 : Int32)), (.ref (n0 + a1))])) _
    refine XS.i2b X9.here hx rfl (hb hby at_91) rfl ?_
    show Steps p.tables e below (T9.setTop (mkF m 92 #[.val (.long j0), .second, .val (.long j2), .second, .val (.int i4), .val (.int i5), .val (.ref (n0 + a1)), .unset] [(.int (i4.toInt8.toInt32)), (.int (8 : Int32)), (.ref (n0 + a1))])) _
    refine st10 _ ?_
    show Steps p.tables e below (T10.setTop (mkF m 93 #[.val (.long j0), .second, .val (.long j2), .second, .val (.int i4), .val (.int i5), .val (.ref (n0 + a1)), .unset] [])) _
    refine XS.aload X10.here hx rfl (hb hby at_93) rfl rfl ?_
    show Steps p.tables e below (T10.setTop (mkF m 95 #[.val (.long j0), .second, .val (.long j2), .second, .val (.int i4), .val (.int i5), .val (.ref (n0 + a1)), .unset] [(.ref (n0 + a1))])) _
    refine XS.bipush X10.here hx rfl (hb hby at_95) ?_
    show Steps p.tables e below (T10.setTop (mkF m 97 #[.val (.long j0), .second, .val (.long j2), .second, .val (.int i4), .val (.int i5), .val (.ref (n0 + a1)), .unset] [(.int (9 : Int32)), (.ref (n0 + a1))])) _
    refine XS.iload X10.here hx rfl (hb hby at_97) rfl ?_
    show Steps p.tables e below (T10.setTop (mkF m 99 #[.val (.long j0), .second, .val (.long j2), .second, .val (.int i4), .val (.int i5), .val (.ref (n0 + a1)), .unset] [(.int i4), (.int (9 : Int32)), (.ref (n0 + a1))])) _
    refine XS.bipush X10.here hx rfl (hb hby at_99) ?_
    show Steps p.tables e below (T10.setTop (mkF m 101 #[.val (.long j0), .second, .val (.long j2), .second, .val (.int i4), .val (.int i5), .val (.ref (n0 + a1)), .unset] [(.int (8 : Int32)), (.int i4), (.int (9 : Int32)), (.ref (n0 + a1))])) _
    refine XS.iushr X10.here hx rfl (hb hby at_101) rfl ?_
    show Steps p.tables e below (T10.setTop (mkF m 102 #[.val (.long j0), .second, .val (.long j2), .second, .val (.int i4), .val (.int i5), .val (.ref (n0 + a1)), .unset] [(.int ((i4.toUInt32 >>> ((8 : Int32) &&& 31).toUInt32).toInt32)), (.int (9 : Int32)), (.ref (n0 + a1))])) _
    refine XS.i2b X10.here hx rfl (hb hby at_102) rfl ?_
    show Steps p.tables e below (T10.setTop (mkF m 103 #[.val (.long j0), .second, .val (.long j2), .second, .val (.int i4), .val (.int i5), .val (.ref (n0 + a1)), .unset] [(.int (((i4.toUInt32 >>> ((8 : Int32) &&& 31).toUInt32).toInt32).toInt8.toInt32)), (.int (9 : Int32)), (.ref (n0 + a1))])) _
    refine st11 _ ?_
    show Steps p.tables e below (T11.setTop (mkF m 104 #[.val (.long j0), .second, .val (.long j2), .second, .val (.int i4), .val (.int i5), .val (.ref (n0 + a1)), .unset] [])) _
    refine XS.aload X11.here hx rfl (hb hby at_104) rfl rfl ?_
    show Steps p.tables e below (T11.setTop (mkF m 106 #[.val (.long j0), .second, .val (.long j2), .second, .val (.int i4), .val (.int i5), .val (.ref (n0 + a1)), .unset] [(.ref (n0 + a1))])) _
    refine XS.bipush X11.here hx rfl (hb hby at_106) ?_
    show Steps p.tables e below (T11.setTop (mkF m 108 #[.val (.long j0), .second, .val (.long j2), .second, .val (.int i4), .val (.int i5), .val (.ref (n0 + a1)), .unset] [(.int (10 : Int32)), (.ref (n0 + a1))])) _
    refine XS.iload X11.here hx rfl (hb hby at_108) rfl ?_
    show Steps p.tables e below (T11.setTop (mkF m 110 #[.val (.long j0), .second, .val (.long j2), .second, .val (.int i4), .val (.int i5), .val (.ref (n0 + a1)), .unset] [(.int i4), (.int (10 : Int32)), (.ref (n0 + a1))])) _
    refine XS.bipush X11.here hx rfl (hb hby at_110) ?_
    show Steps p.tables e below (T11.setTop (mkF m 112 #[.val (.long j0), .second, .val (.long j2), .second, .val (.int i4), .val (.int i5), .val (.ref (n0 + a1)), .unset] [(.int (16 : Int32)), (.int i4), (.int (10 : Int32)), (.ref (n0 + a1))])) _
    refine XS.iushr X11.here hx rfl (hb hby at_112) rfl ?_
    show Steps p.tables e below (T11.setTop (mkF m 113 #[.val (.long j0), .second, .val (.long j2), .second, .val (.int i4), .val (.int i5), .val (.ref (n0 + a1)), .unset] [(.int ((i4.toUInt32 >>> ((16 : Int32) &&& 31).toUInt32).toInt32)), (.int (10 : Int32)), (.ref (n0 + a1))])) _
    refine XS.i2b X11.here hx rfl (hb hby at_113) rfl ?_
    show Steps p.tables e below (T11.setTop (mkF m 114 #[.val (.long j0), .second, .val (.long j2), .second, .val (.int i4), .val (.int i5), .val (.ref (n0 + a1)), .unset] [(.int (((i4.toUInt32 >>> ((16 : Int32) &&& 31).toUInt32).toInt32).toInt8.toInt32)), (.int (10 : Int32)), (.ref (n0 + a1))])) _
    refine st12 _ ?_
    show Steps p.tables e below (T12.setTop (mkF m 115 #[.val (.long j0), .second, .val (.long j2), .second, .val (.int i4), .val (.int i5), .val (.ref (n0 + a1)), .unset] [])) _
    refine XS.aload X12.here hx rfl (hb hby at_115) rfl rfl ?_
    show Steps p.tables e below (T12.setTop (mkF m 117 #[.val (.long j0), .second, .val (.long j2), .second, .val (.int i4), .val (.int i5), .val (.ref (n0 + a1)), .unset] [(.ref (n0 + a1))])) _
    refine XS.bipush X12.here hx rfl (hb hby at_117) ?_
    show Steps p.tables e below (T12.setTop (mkF m 119 #[.val (.long j0), .second, .val (.long j2), .second, .val (.int i4), .val (.int i5), .val (.ref (n0 + a1)), .unset] [(.int (11 : Int32)), (.ref (n0 + a1))])) _
    refine XS.iload X12.here hx rfl (hb hby at_119) rfl ?_
    show Steps p.tables e below (T12.setTop (mkF m 121 #[.val (.long j0), .second, .val (.long j2), .second, .val (.int i4), .val (.int i5), .val (.ref (n0 + a1)), .unset] [(.int i4), (.int (11 : Int32)), (.ref (n0 + a1))])) _
    refine XS.bipush X12.here hx rfl (hb hby at_121) ?_
    show Steps p.tables e below (T12.setTop (mkF m 123 #[.val (.long j0), .second, .val (.long j2), .second, .val (.int i4), .val (.int i5), .val (.ref (n0 + a1)), .unset] [(.int (24 : Int32)), (.int i4), (.int (11 : Int32)), (.ref (n0 + a1))])) _
    refine XS.iushr X12.here hx rfl (hb hby at_123) rfl ?_
    show Steps p.tables e below (T12.setTop (mkF m 124 #[.val (.long j0), .second, .val (.long j2), .second, .val (.int i4), .val (.int i5), .val (.ref (n0 + a1)), .unset] [(.int ((i4.toUInt32 >>> ((24 : Int32) &&& 31).toUInt32).toInt32)), (.int (11 : Int32)), (.ref (n0 + a1))])) _
    refine XS.i2b X12.here hx rfl (hb hby at_124) rfl ?_
    show Steps p.tables e below (T12.setTop (mkF m 125 #[.val (.long j0), .second, .val (.long j2), .second, .val (.int i4), .val (.int i5), .val (.ref (n0 + a1)), .unset] [(.int (((i4.toUInt32 >>> ((24 : Int32) &&& 31).toUInt32).toInt32).toInt8.toInt32)), (.int (11 : Int32)), (.ref (n0 + a1))])) _
    refine st13 _ ?_
    show Steps p.tables e below (T13.setTop (mkF m 126 #[.val (.long j0), .second, .val (.long j2), .second, .val (.int i4), .val (.int i5), .val (.ref (n0 + a1)), .unset] [])) _
    refine XS.iload X13.here hx rfl (hb hby at_126) rfl ?_
    show Steps p.tables e below (T13.setTop (mkF m 128 #[.val (.long j0), .second, .val (.long j2), .second, .val (.int i4), .val (.int i5), .val (.ref (n0 + a1)), .unset] [(.int i5)])) _
    refine X13.ldcInt hx hown (mvT hZ (hw _ (List.mem_of_getElem? (i := 1) rfl))) (g := (mkF m 128 #[.val (.long j0), .second, .val (.long j2), .second, .val (.int i4), .val (.int i5), .val (.ref (n0 + a1)), .unset] [(.int i5)])) rfl (hb hby at_128) _ ?_
    show Steps p.tables e below (T13.setTop (mkF m 130 #[.val (.long j0), .second, .val (.long j2), .second, .val (.int i4), .val (.int i5), .val (.ref (n0 + a1)), .unset] [(.int (2147483647 : Int32)), (.int i5)])) _
    refine XS.iand X13.here hx rfl (hb hby at_130) rfl ?_
    show Steps p.tables e below (T13.setTop (mkF m 131 #[.val (.long j0), .second, .val (.long j2), .second, .val (.int i4), .val (.int i5), .val (.ref (n0 + a1)), .unset] [(.int (i5 &&& (2147483647 : Int32)))])) _
    refine XS.iconst X13.here hx rfl (hb hby at_131) ?_
    show Steps p.tables e below (T13.setTop (mkF m 132 #[.val (.long j0), .second, .val (.long j2), .second, .val (.int i4), .val (.int i5), .val (.ref (n0 + a1)), .unset] [(.int (5 : Int32)), (.int (i5 &&& (2147483647 : Int32)))])) _
    refine iremM X13 hx rfl (hb hby at_132) rfl (by decide) ?_
    show Steps p.tables e below (T13.setTop (mkF m 133 #[.val (.long j0), .second, .val (.long j2), .second, .val (.int i4), .val (.int i5), .val (.ref (n0 + a1)), .unset] [(.int ((i5 &&& (2147483647 : Int32)) % (5 : Int32)))])) _
    refine own_to (congrArg (fun z => T13.setTop (mkF m 133 #[.val (.long j0), .second, .val (.long j2), .second, .val (.int i4), .val (.int i5), .val (.ref (n0 + a1)), .unset] [(.int z)])) hv14) ?_
    show Steps p.tables e below (T13.setTop (mkF m 133 #[.val (.long j0), .second, .val (.long j2), .second, .val (.int i4), .val (.int i5), .val (.ref (n0 + a1)), .unset] [(.int v14)])) _
    refine XS.istore X13.here hx rfl (hb hby at_133) rfl (l' := #[.val (.long j0), .second, .val (.long j2), .second, .val (.int i4), .val (.int i5), .val (.ref (n0 + a1)), .val (.int v14)]) rfl ?_
    show Steps p.tables e below (T13.setTop (mkF m 135 #[.val (.long j0), .second, .val (.long j2), .second, .val (.int i4), .val (.int i5), .val (.ref (n0 + a1)), .val (.int v14)] [])) _
    refine XS.aload X13.here hx rfl (hb hby at_135) rfl rfl ?_
    show Steps p.tables e below (T13.setTop (mkF m 137 #[.val (.long j0), .second, .val (.long j2), .second, .val (.int i4), .val (.int i5), .val (.ref (n0 + a1)), .val (.int v14)] [(.ref (n0 + a1))])) _
    refine XS.iload X13.here hx rfl (hb hby at_137) rfl ?_
    show Steps p.tables e below (T13.setTop (mkF m 139 #[.val (.long j0), .second, .val (.long j2), .second, .val (.int i4), .val (.int i5), .val (.ref (n0 + a1)), .val (.int v14)] [(.int v14), (.ref (n0 + a1))])) _
    refine XS.lloadN X13.here hx rfl (hb hby at_139) rfl ?_
    show Steps p.tables e below (T13.setTop (mkF m 140 #[.val (.long j0), .second, .val (.long j2), .second, .val (.int i4), .val (.int i5), .val (.ref (n0 + a1)), .val (.int v14)] [(.long j0), (.int v14), (.ref (n0 + a1))])) _
    refine XS.l2i X13.here hx rfl (hb hby at_140) rfl ?_
    show Steps p.tables e below (T13.setTop (mkF m 141 #[.val (.long j0), .second, .val (.long j2), .second, .val (.int i4), .val (.int i5), .val (.ref (n0 + a1)), .val (.int v14)] [(.int (j0.toInt32)), (.int v14), (.ref (n0 + a1))])) _
    refine XS.i2b X13.here hx rfl (hb hby at_141) rfl ?_
    show Steps p.tables e below (T13.setTop (mkF m 142 #[.val (.long j0), .second, .val (.long j2), .second, .val (.int i4), .val (.int i5), .val (.ref (n0 + a1)), .val (.int v14)] [(.int ((j0.toInt32).toInt8.toInt32)), (.int v14), (.ref (n0 + a1))])) _
    refine st15 _ ?_
    show Steps p.tables e below (T15.setTop (mkF m 143 #[.val (.long j0), .second, .val (.long j2), .second, .val (.int i4), .val (.int i5), .val (.ref (n0 + a1)), .val (.int v14)] [])) _
    refine XS.aload X15.here hx rfl (hb hby at_143) rfl rfl ?_
    show Steps p.tables e below (T15.setTop (mkF m 145 #[.val (.long j0), .second, .val (.long j2), .second, .val (.int i4), .val (.int i5), .val (.ref (n0 + a1)), .val (.int v14)] [(.ref (n0 + a1))])) _
    refine XS.iload X15.here hx rfl (hb hby at_145) rfl ?_
    show Steps p.tables e below (T15.setTop (mkF m 147 #[.val (.long j0), .second, .val (.long j2), .second, .val (.int i4), .val (.int i5), .val (.ref (n0 + a1)), .val (.int v14)] [(.int v14), (.ref (n0 + a1))])) _
    refine XS.iconst X15.here hx rfl (hb hby at_147) ?_
    show Steps p.tables e below (T15.setTop (mkF m 148 #[.val (.long j0), .second, .val (.long j2), .second, .val (.int i4), .val (.int i5), .val (.ref (n0 + a1)), .val (.int v14)] [(.int (1 : Int32)), (.int v14), (.ref (n0 + a1))])) _
    refine XS.iadd X15.here hx rfl (hb hby at_148) rfl ?_
    show Steps p.tables e below (T15.setTop (mkF m 149 #[.val (.long j0), .second, .val (.long j2), .second, .val (.int i4), .val (.int i5), .val (.ref (n0 + a1)), .val (.int v14)] [(.int (v14 + (1 : Int32))), (.ref (n0 + a1))])) _
    refine XS.lloadN X15.here hx rfl (hb hby at_149) rfl ?_
    show Steps p.tables e below (T15.setTop (mkF m 150 #[.val (.long j0), .second, .val (.long j2), .second, .val (.int i4), .val (.int i5), .val (.ref (n0 + a1)), .val (.int v14)] [(.long j0), (.int (v14 + (1 : Int32))), (.ref (n0 + a1))])) _
    refine XS.bipush X15.here hx rfl (hb hby at_150) ?_
    show Steps p.tables e below (T15.setTop (mkF m 152 #[.val (.long j0), .second, .val (.long j2), .second, .val (.int i4), .val (.int i5), .val (.ref (n0 + a1)), .val (.int v14)] [(.int (8 : Int32)), (.long j0), (.int (v14 + (1 : Int32))), (.ref (n0 + a1))])) _
    refine XS.lushr X15.here hx rfl (hb hby at_152) rfl ?_
    show Steps p.tables e below (T15.setTop (mkF m 153 #[.val (.long j0), .second, .val (.long j2), .second, .val (.int i4), .val (.int i5), .val (.ref (n0 + a1)), .val (.int v14)] [(.long ((j0.toUInt64 >>> ((8 : Int32) &&& 0x3f).toInt64.toUInt64).toInt64)), (.int (v14 + (1 : Int32))), (.ref (n0 + a1))])) _
    refine XS.l2i X15.here hx rfl (hb hby at_153) rfl ?_
    show Steps p.tables e below (T15.setTop (mkF m 154 #[.val (.long j0), .second, .val (.long j2), .second, .val (.int i4), .val (.int i5), .val (.ref (n0 + a1)), .val (.int v14)] [(.int (((j0.toUInt64 >>> ((8 : Int32) &&& 0x3f).toInt64.toUInt64).toInt64).toInt32)), (.int (v14 + (1 : Int32))), (.ref (n0 + a1))])) _
    refine XS.i2b X15.here hx rfl (hb hby at_154) rfl ?_
    show Steps p.tables e below (T15.setTop (mkF m 155 #[.val (.long j0), .second, .val (.long j2), .second, .val (.int i4), .val (.int i5), .val (.ref (n0 + a1)), .val (.int v14)] [(.int ((((j0.toUInt64 >>> ((8 : Int32) &&& 0x3f).toInt64.toUInt64).toInt64).toInt32).toInt8.toInt32)), (.int (v14 + (1 : Int32))), (.ref (n0 + a1))])) _
    refine st16 _ ?_
    show Steps p.tables e below (T16.setTop (mkF m 156 #[.val (.long j0), .second, .val (.long j2), .second, .val (.int i4), .val (.int i5), .val (.ref (n0 + a1)), .val (.int v14)] [])) _
    refine XS.aload X16.here hx rfl (hb hby at_156) rfl rfl ?_
    show Steps p.tables e below (T16.setTop (mkF m 158 #[.val (.long j0), .second, .val (.long j2), .second, .val (.int i4), .val (.int i5), .val (.ref (n0 + a1)), .val (.int v14)] [(.ref (n0 + a1))])) _
    refine XS.iload X16.here hx rfl (hb hby at_158) rfl ?_
    show Steps p.tables e below (T16.setTop (mkF m 160 #[.val (.long j0), .second, .val (.long j2), .second, .val (.int i4), .val (.int i5), .val (.ref (n0 + a1)), .val (.int v14)] [(.int v14), (.ref (n0 + a1))])) _
    refine XS.iconst X16.here hx rfl (hb hby at_160) ?_
    show Steps p.tables e below (T16.setTop (mkF m 161 #[.val (.long j0), .second, .val (.long j2), .second, .val (.int i4), .val (.int i5), .val (.ref (n0 + a1)), .val (.int v14)] [(.int (2 : Int32)), (.int v14), (.ref (n0 + a1))])) _
    refine XS.iadd X16.here hx rfl (hb hby at_161) rfl ?_
    show Steps p.tables e below (T16.setTop (mkF m 162 #[.val (.long j0), .second, .val (.long j2), .second, .val (.int i4), .val (.int i5), .val (.ref (n0 + a1)), .val (.int v14)] [(.int (v14 + (2 : Int32))), (.ref (n0 + a1))])) _
    refine XS.lloadN X16.here hx rfl (hb hby at_162) rfl ?_
    show Steps p.tables e below (T16.setTop (mkF m 163 #[.val (.long j0), .second, .val (.long j2), .second, .val (.int i4), .val (.int i5), .val (.ref (n0 + a1)), .val (.int v14)] [(.long j0), (.int (v14 + (2 : Int32))), (.ref (n0 + a1))])) _
    refine XS.bipush X16.here hx rfl (hb hby at_163) ?_
    show Steps p.tables e below (T16.setTop (mkF m 165 #[.val (.long j0), .second, .val (.long j2), .second, .val (.int i4), .val (.int i5), .val (.ref (n0 + a1)), .val (.int v14)] [(.int (16 : Int32)), (.long j0), (.int (v14 + (2 : Int32))), (.ref (n0 + a1))])) _
    refine XS.lushr X16.here hx rfl (hb hby at_165) rfl ?_
    show Steps p.tables e below (T16.setTop (mkF m 166 #[.val (.long j0), .second, .val (.long j2), .second, .val (.int i4), .val (.int i5), .val (.ref (n0 + a1)), .val (.int v14)] [(.long ((j0.toUInt64 >>> ((16 : Int32) &&& 0x3f).toInt64.toUInt64).toInt64)), (.int (v14 + (2 : Int32))), (.ref (n0 + a1))])) _
    refine XS.l2i X16.here hx rfl (hb hby at_166) rfl ?_
    show Steps p.tables e below (T16.setTop (mkF m 167 #[.val (.long j0), .second, .val (.long j2), .second, .val (.int i4), .val (.int i5), .val (.ref (n0 + a1)), .val (.int v14)] [(.int (((j0.toUInt64 >>> ((16 : Int32) &&& 0x3f).toInt64.toUInt64).toInt64).toInt32)), (.int (v14 + (2 : Int32))), (.ref (n0 + a1))])) _
    refine XS.i2b X16.here hx rfl (hb hby at_167) rfl ?_
    show Steps p.tables e below (T16.setTop (mkF m 168 #[.val (.long j0), .second, .val (.long j2), .second, .val (.int i4), .val (.int i5), .val (.ref (n0 + a1)), .val (.int v14)] [(.int ((((j0.toUInt64 >>> ((16 : Int32) &&& 0x3f).toInt64.toUInt64).toInt64).toInt32).toInt8.toInt32)), (.int (v14 + (2 : Int32))), (.ref (n0 + a1))])) _
    refine st17 _ ?_
    show Steps p.tables e below (T17.setTop (mkF m 169 #[.val (.long j0), .second, .val (.long j2), .second, .val (.int i4), .val (.int i5), .val (.ref (n0 + a1)), .val (.int v14)] [])) _
    refine XS.aload X17.here hx rfl (hb hby at_169) rfl rfl ?_
    show Steps p.tables e below (T17.setTop (mkF m 171 #[.val (.long j0), .second, .val (.long j2), .second, .val (.int i4), .val (.int i5), .val (.ref (n0 + a1)), .val (.int v14)] [(.ref (n0 + a1))])) _
    refine XS.iload X17.here hx rfl (hb hby at_171) rfl ?_
    show Steps p.tables e below (T17.setTop (mkF m 173 #[.val (.long j0), .second, .val (.long j2), .second, .val (.int i4), .val (.int i5), .val (.ref (n0 + a1)), .val (.int v14)] [(.int v14), (.ref (n0 + a1))])) _
    refine XS.iconst X17.here hx rfl (hb hby at_173) ?_
    show Steps p.tables e below (T17.setTop (mkF m 174 #[.val (.long j0), .second, .val (.long j2), .second, .val (.int i4), .val (.int i5), .val (.ref (n0 + a1)), .val (.int v14)] [(.int (3 : Int32)), (.int v14), (.ref (n0 + a1))])) _
    refine XS.iadd X17.here hx rfl (hb hby at_174) rfl ?_
    show Steps p.tables e below (T17.setTop (mkF m 175 #[.val (.long j0), .second, .val (.long j2), .second, .val (.int i4), .val (.int i5), .val (.ref (n0 + a1)), .val (.int v14)] [(.int (v14 + (3 : Int32))), (.ref (n0 + a1))])) _
    refine XS.lloadN X17.here hx rfl (hb hby at_175) rfl ?_
    show Steps p.tables e below (T17.setTop (mkF m 176 #[.val (.long j0), .second, .val (.long j2), .second, .val (.int i4), .val (.int i5), .val (.ref (n0 + a1)), .val (.int v14)] [(.long j0), (.int (v14 + (3 : Int32))), (.ref (n0 + a1))])) _
    refine XS.bipush X17.here hx rfl (hb hby at_176) ?_
    show Steps p.tables e below (T17.setTop (mkF m 178 #[.val (.long j0), .second, .val (.long j2), .second, .val (.int i4), .val (.int i5), .val (.ref (n0 + a1)), .val (.int v14)] [(.int (24 : Int32)), (.long j0), (.int (v14 + (3 : Int32))), (.ref (n0 + a1))])) _
    refine XS.lushr X17.here hx rfl (hb hby at_178) rfl ?_
    show Steps p.tables e below (T17.setTop (mkF m 179 #[.val (.long j0), .second, .val (.long j2), .second, .val (.int i4), .val (.int i5), .val (.ref (n0 + a1)), .val (.int v14)] [(.long ((j0.toUInt64 >>> ((24 : Int32) &&& 0x3f).toInt64.toUInt64).toInt64)), (.int (v14 + (3 : Int32))), (.ref (n0 + a1))])) _
    refine XS.l2i X17.here hx rfl (hb hby at_179) rfl ?_
    show Steps p.tables e below (T17.setTop (mkF m 180 #[.val (.long j0), .second, .val (.long j2), .second, .val (.int i4), .val (.int i5), .val (.ref (n0 + a1)), .val (.int v14)] [(.int (((j0.toUInt64 >>> ((24 : Int32) &&& 0x3f).toInt64.toUInt64).toInt64).toInt32)), (.int (v14 + (3 : Int32))), (.ref (n0 + a1))])) _
    refine XS.i2b X17.here hx rfl (hb hby at_180) rfl ?_
    show Steps p.tables e below (T17.setTop (mkF m 181 #[.val (.long j0), .second, .val (.long j2), .second, .val (.int i4), .val (.int i5), .val (.ref (n0 + a1)), .val (.int v14)] [(.int ((((j0.toUInt64 >>> ((24 : Int32) &&& 0x3f).toInt64.toUInt64).toInt64).toInt32).toInt8.toInt32)), (.int (v14 + (3 : Int32))), (.ref (n0 + a1))])) _
    refine st18 _ ?_
    show Steps p.tables e below (T18.setTop (mkF m 182 #[.val (.long j0), .second, .val (.long j2), .second, .val (.int i4), .val (.int i5), .val (.ref (n0 + a1)), .val (.int v14)] [])) _
    refine XS.aload X18.here hx rfl (hb hby at_182) rfl rfl ?_
    show Steps p.tables e below (T18.setTop (mkF m 184 #[.val (.long j0), .second, .val (.long j2), .second, .val (.int i4), .val (.int i5), .val (.ref (n0 + a1)), .val (.int v14)] [(.ref (n0 + a1))])) _
    refine XS.iload X18.here hx rfl (hb hby at_184) rfl ?_
    show Steps p.tables e below (T18.setTop (mkF m 186 #[.val (.long j0), .second, .val (.long j2), .second, .val (.int i4), .val (.int i5), .val (.ref (n0 + a1)), .val (.int v14)] [(.int v14), (.ref (n0 + a1))])) _
    refine XS.iconst X18.here hx rfl (hb hby at_186) ?_
    show Steps p.tables e below (T18.setTop (mkF m 187 #[.val (.long j0), .second, .val (.long j2), .second, .val (.int i4), .val (.int i5), .val (.ref (n0 + a1)), .val (.int v14)] [(.int (4 : Int32)), (.int v14), (.ref (n0 + a1))])) _
    refine XS.iadd X18.here hx rfl (hb hby at_187) rfl ?_
    show Steps p.tables e below (T18.setTop (mkF m 188 #[.val (.long j0), .second, .val (.long j2), .second, .val (.int i4), .val (.int i5), .val (.ref (n0 + a1)), .val (.int v14)] [(.int (v14 + (4 : Int32))), (.ref (n0 + a1))])) _
    refine XS.lloadN X18.here hx rfl (hb hby at_188) rfl ?_
    show Steps p.tables e below (T18.setTop (mkF m 189 #[.val (.long j0), .second, .val (.long j2), .second, .val (.int i4), .val (.int i5), .val (.ref (n0 + a1)), .val (.int v14)] [(.long j0), (.int (v14 + (4 : Int32))), (.ref (n0 + a1))])) _
    refine XS.bipush X18.here hx rfl (hb hby at_189) ?_
    show Steps p.tables e below (T18.setTop (mkF m 191 #[.val (.long j0), .second, .val (.long j2), .second, .val (.int i4), .val (.int i5), .val (.ref (n0 + a1)), .val (.int v14)] [(.int (32 : Int32)), (.long j0), (.int (v14 + (4 : Int32))), (.ref (n0 + a1))])) _
    refine XS.lushr X18.here hx rfl (hb hby at_191) rfl ?_
    show Steps p.tables e below (T18.setTop (mkF m 192 #[.val (.long j0), .second, .val (.long j2), .second, .val (.int i4), .val (.int i5), .val (.ref (n0 + a1)), .val (.int v14)] [(.long ((j0.toUInt64 >>> ((32 : Int32) &&& 0x3f).toInt64.toUInt64).toInt64)), (.int (v14 + (4 : Int32))), (.ref (n0 + a1))])) _
    refine XS.l2i X18.here hx rfl (hb hby at_192) rfl ?_
    show Steps p.tables e below (T18.setTop (mkF m 193 #[.val (.long j0), .second, .val (.long j2), .second, .val (.int i4), .val (.int i5), .val (.ref (n0 + a1)), .val (.int v14)] [(.int (((j0.toUInt64 >>> ((32 : Int32) &&& 0x3f).toInt64.toUInt64).toInt64).toInt32)), (.int (v14 + (4 : Int32))), (.ref (n0 + a1))])) _
    refine XS.i2b X18.here hx rfl (hb hby at_193) rfl ?_
    show Steps p.tables e below (T18.setTop (mkF m 194 #[.val (.long j0), .second, .val (.long j2), .second, .val (.int i4), .val (.int i5), .val (.ref (n0 + a1)), .val (.int v14)] [(.int ((((j0.toUInt64 >>> ((32 : Int32) &&& 0x3f).toInt64.toUInt64).toInt64).toInt32).toInt8.toInt32)), (.int (v14 + (4 : Int32))), (.ref (n0 + a1))])) _
    refine st19 _ ?_
    show Steps p.tables e below (T19.setTop (mkF m 195 #[.val (.long j0), .second, .val (.long j2), .second, .val (.int i4), .val (.int i5), .val (.ref (n0 + a1)), .val (.int v14)] [])) _
    refine XS.aload X19.here hx rfl (hb hby at_195) rfl rfl ?_
    show Steps p.tables e below (T19.setTop (mkF m 197 #[.val (.long j0), .second, .val (.long j2), .second, .val (.int i4), .val (.int i5), .val (.ref (n0 + a1)), .val (.int v14)] [(.ref (n0 + a1))])) _
    refine XS.iload X19.here hx rfl (hb hby at_197) rfl ?_
    show Steps p.tables e below (T19.setTop (mkF m 199 #[.val (.long j0), .second, .val (.long j2), .second, .val (.int i4), .val (.int i5), .val (.ref (n0 + a1)), .val (.int v14)] [(.int v14), (.ref (n0 + a1))])) _
    refine XS.iconst X19.here hx rfl (hb hby at_199) ?_
    show Steps p.tables e below (T19.setTop (mkF m 200 #[.val (.long j0), .second, .val (.long j2), .second, .val (.int i4), .val (.int i5), .val (.ref (n0 + a1)), .val (.int v14)] [(.int (5 : Int32)), (.int v14), (.ref (n0 + a1))])) _
    refine XS.iadd X19.here hx rfl (hb hby at_200) rfl ?_
    show Steps p.tables e below (T19.setTop (mkF m 201 #[.val (.long j0), .second, .val (.long j2), .second, .val (.int i4), .val (.int i5), .val (.ref (n0 + a1)), .val (.int v14)] [(.int (v14 + (5 : Int32))), (.ref (n0 + a1))])) _
    refine XS.lloadN X19.here hx rfl (hb hby at_201) rfl ?_
    show Steps p.tables e below (T19.setTop (mkF m 202 #[.val (.long j0), .second, .val (.long j2), .second, .val (.int i4), .val (.int i5), .val (.ref (n0 + a1)), .val (.int v14)] [(.long j0), (.int (v14 + (5 : Int32))), (.ref (n0 + a1))])) _
    refine XS.bipush X19.here hx rfl (hb hby at_202) ?_
    show Steps p.tables e below (T19.setTop (mkF m 204 #[.val (.long j0), .second, .val (.long j2), .second, .val (.int i4), .val (.int i5), .val (.ref (n0 + a1)), .val (.int v14)] [(.int (40 : Int32)), (.long j0), (.int (v14 + (5 : Int32))), (.ref (n0 + a1))])) _
    refine XS.lushr X19.here hx rfl (hb hby at_204) rfl ?_
    show Steps p.tables e below (T19.setTop (mkF m 205 #[.val (.long j0), .second, .val (.long j2), .second, .val (.int i4), .val (.int i5), .val (.ref (n0 + a1)), .val (.int v14)] [(.long ((j0.toUInt64 >>> ((40 : Int32) &&& 0x3f).toInt64.toUInt64).toInt64)), (.int (v14 + (5 : Int32))), (.ref (n0 + a1))])) _
    refine XS.l2i X19.here hx rfl (hb hby at_205) rfl ?_
    show Steps p.tables e below (T19.setTop (mkF m 206 #[.val (.long j0), .second, .val (.long j2), .second, .val (.int i4), .val (.int i5), .val (.ref (n0 + a1)), .val (.int v14)] [(.int (((j0.toUInt64 >>> ((40 : Int32) &&& 0x3f).toInt64.toUInt64).toInt64).toInt32)), (.int (v14 + (5 : Int32))), (.ref (n0 + a1))])) _
    refine XS.i2b X19.here hx rfl (hb hby at_206) rfl ?_
    show Steps p.tables e below (T19.setTop (mkF m 207 #[.val (.long j0), .second, .val (.long j2), .second, .val (.int i4), .val (.int i5), .val (.ref (n0 + a1)), .val (.int v14)] [(.int ((((j0.toUInt64 >>> ((40 : Int32) &&& 0x3f).toInt64.toUInt64).toInt64).toInt32).toInt8.toInt32)), (.int (v14 + (5 : Int32))), (.ref (n0 + a1))])) _
    refine st20 _ ?_
    show Steps p.tables e below (T20.setTop (mkF m 208 #[.val (.long j0), .second, .val (.long j2), .second, .val (.int i4), .val (.int i5), .val (.ref (n0 + a1)), .val (.int v14)] [])) _
    refine XS.aload X20.here hx rfl (hb hby at_208) rfl rfl ?_
    show Steps p.tables e below (T20.setTop (mkF m 210 #[.val (.long j0), .second, .val (.long j2), .second, .val (.int i4), .val (.int i5), .val (.ref (n0 + a1)), .val (.int v14)] [(.ref (n0 + a1))])) _
    refine XS.iload X20.here hx rfl (hb hby at_210) rfl ?_
    show Steps p.tables e below (T20.setTop (mkF m 212 #[.val (.long j0), .second, .val (.long j2), .second, .val (.int i4), .val (.int i5), .val (.ref (n0 + a1)), .val (.int v14)] [(.int v14), (.ref (n0 + a1))])) _
    refine XS.bipush X20.here hx rfl (hb hby at_212) ?_
    show Steps p.tables e below (T20.setTop (mkF m 214 #[.val (.long j0), .second, .val (.long j2), .second, .val (.int i4), .val (.int i5), .val (.ref (n0 + a1)), .val (.int v14)] [(.int (6 : Int32)), (.int v14), (.ref (n0 + a1))])) _
    refine XS.iadd X20.here hx rfl (hb hby at_214) rfl ?_
    show Steps p.tables e below (T20.setTop (mkF m 215 #[.val (.long j0), .second, .val (.long j2), .second, .val (.int i4), .val (.int i5), .val (.ref (n0 + a1)), .val (.int v14)] [(.int (v14 + (6 : Int32))), (.ref (n0 + a1))])) _
    refine XS.lloadN X20.here hx rfl (hb hby at_215) rfl ?_
    show Steps p.tables e below (T20.setTop (mkF m 216 #[.val (.long j0), .second, .val (.long j2), .second, .val (.int i4), .val (.int i5), .val (.ref (n0 + a1)), .val (.int v14)] [(.long j0), (.int (v14 + (6 : Int32))), (.ref (n0 + a1))])) _
    refine XS.bipush X20.here hx rfl (hb hby at_216) ?_
    show Steps p.tables e below (T20.setTop (mkF m 218 #[.val (.long j0), .second, .val (.long j2), .second, .val (.int i4), .val (.int i5), .val (.ref (n0 + a1)), .val (.int v14)] [(.int (48 : Int32)), (.long j0), (.int (v14 + (6 : Int32))), (.ref (n0 + a1))])) _
    refine XS.lushr X20.here hx rfl (hb hby at_218) rfl ?_
    show Steps p.tables e below (T20.setTop (mkF m 219 #[.val (.long j0), .second, .val (.long j2), .second, .val (.int i4), .val (.int i5), .val (.ref (n0 + a1)), .val (.int v14)] [(.long ((j0.toUInt64 >>> ((48 : Int32) &&& 0x3f).toInt64.toUInt64).toInt64)), (.int (v14 + (6 : Int32))), (.ref (n0 + a1))])) _
    refine XS.l2i X20.here hx rfl (hb hby at_219) rfl ?_
    show Steps p.tables e below (T20.setTop (mkF m 220 #[.val (.long j0), .second, .val (.long j2), .second, .val (.int i4), .val (.int i5), .val (.ref (n0 + a1)), .val (.int v14)] [(.int (((j0.toUInt64 >>> ((48 : Int32) &&& 0x3f).toInt64.toUInt64).toInt64).toInt32)), (.int (v14 + (6 : Int32))), (.ref (n0 + a1))])) _
    refine XS.i2b X20.here hx rfl (hb hby at_220) rfl ?_
    show Steps p.tables e below (T20.setTop (mkF m 221 #[.val (.long j0), .second, .val (.long j2), .second, .val (.int i4), .val (.int i5), .val (.ref (n0 + a1)), .val (.int v14)] [(.int ((((j0.toUInt64 >>> ((48 : Int32) &&& 0x3f).toInt64.toUInt64).toInt64).toInt32).toInt8.toInt32)), (.int (v14 + (6 : Int32))), (.ref (n0 + a1))])) _
    refine st21 _ ?_
    show Steps p.tables e below (T21.setTop (mkF m 222 #[.val (.long j0), .second, .val (.long j2), .second, .val (.int i4), .val (.int i5), .val (.ref (n0 + a1)), .val (.int v14)] [])) _
    refine XS.aload X21.here hx rfl (hb hby at_222) rfl rfl ?_
    show Steps p.tables e below (T21.setTop (mkF m 224 #[.val (.long j0), .second, .val (.long j2), .second, .val (.int i4), .val (.int i5), .val (.ref (n0 + a1)), .val (.int v14)] [(.ref (n0 + a1))])) _
    refine XS.iload X21.here hx rfl (hb hby at_224) rfl ?_
    show Steps p.tables e below (T21.setTop (mkF m 226 #[.val (.long j0), .second, .val (.long j2), .second, .val (.int i4), .val (.int i5), .val (.ref (n0 + a1)), .val (.int v14)] [(.int v14), (.ref (n0 + a1))])) _
    refine XS.bipush X21.here hx rfl (hb hby at_226) ?_
    show Steps p.tables e below (T21.setTop (mkF m 228 #[.val (.long j0), .second, .val (.long j2), .second, .val (.int i4), .val (.int i5), .val (.ref (n0 + a1)), .val (.int v14)] [(.int (7 : Int32)), (.int v14), (.ref (n0 + a1))])) _
    refine XS.iadd X21.here hx rfl (hb hby at_228) rfl ?_
    show Steps p.tables e below (T21.setTop (mkF m 229 #[.val (.long j0), .second, .val (.long j2), .second, .val (.int i4), .val (.int i5), .val (.ref (n0 + a1)), .val (.int v14)] [(.int (v14 + (7 : Int32))), (.ref (n0 + a1))])) _
    refine XS.lloadN X21.here hx rfl (hb hby at_229) rfl ?_
    show Steps p.tables e below (T21.setTop (mkF m 230 #[.val (.long j0), .second, .val (.long j2), .second, .val (.int i4), .val (.int i5), .val (.ref (n0 + a1)), .val (.int v14)] [(.long j0), (.int (v14 + (7 : Int32))), (.ref (n0 + a1))])) _
    refine XS.bipush X21.here hx rfl (hb hby at_230) ?_
    show Steps p.tables e below (T21.setTop (mkF m 232 #[.val (.long j0), .second, .val (.long j2), .second, .val (.int i4), .val (.int i5), .val (.ref (n0 + a1)), .val (.int v14)] [(.int (56 : Int32)), (.long j0), (.int (v14 + (7 : Int32))), (.ref (n0 + a1))])) _
    refine XS.lushr X21.here hx rfl (hb hby at_232) rfl ?_
    show Steps p.tables e below (T21.setTop (mkF m 233 #[.val (.long j0), .second, .val (.long j2), .second, .val (.int i4), .val (.int i5), .val (.ref (n0 + a1)), .val (.int v14)] [(.long ((j0.toUInt64 >>> ((56 : Int32) &&& 0x3f).toInt64.toUInt64).toInt64)), (.int (v14 + (7 : Int32))), (.ref (n0 + a1))])) _
    refine XS.l2i X21.here hx rfl (hb hby at_233) rfl ?_
    show Steps p.tables e below (T21.setTop (mkF m 234 #[.val (.long j0), .second, .val (.long j2), .second, .val (.int i4), .val (.int i5), .val (.ref (n0 + a1)), .val (.int v14)] [(.int (((j0.toUInt64 >>> ((56 : Int32) &&& 0x3f).toInt64.toUInt64).toInt64).toInt32)), (.int (v14 + (7 : Int32))), (.ref (n0 + a1))])) _
    refine XS.i2b X21.here hx rfl (hb hby at_234) rfl ?_
    show Steps p.tables e below (T21.setTop (mkF m 235 #[.val (.long j0), .second, .val (.long j2), .second, .val (.int i4), .val (.int i5), .val (.ref (n0 + a1)), .val (.int v14)] [(.int ((((j0.toUInt64 >>> ((56 : Int32) &&& 0x3f).toInt64.toUInt64).toInt64).toInt32).toInt8.toInt32)), (.int (v14 + (7 : Int32))), (.ref (n0 + a1))])) _
    refine st22 _ ?_
    show Steps p.tables e below (T22.setTop (mkF m 236 #[.val (.long j0), .second, .val (.long j2), .second, .val (.int i4), .val (.int i5), .val (.ref (n0 + a1)), .val (.int v14)] [])) _
    refine XS.aload X22.here hx rfl (hb hby at_236) rfl rfl ?_
    show Steps p.tables e below (T22.setTop (mkF m 238 #[.val (.long j0), .second, .val (.long j2), .second, .val (.int i4), .val (.int i5), .val (.ref (n0 + a1)), .val (.int v14)] [(.ref (n0 + a1))])) _
    refine XS.iload X22.here hx rfl (hb hby at_238) rfl ?_
    show Steps p.tables e below (T22.setTop (mkF m 240 #[.val (.long j0), .second, .val (.long j2), .second, .val (.int i4), .val (.int i5), .val (.ref (n0 + a1)), .val (.int v14)] [(.int v14), (.ref (n0 + a1))])) _
    refine st23 _ ?_
    show Steps p.tables e below (T23.setTop (mkF m 243 #[.val (.long j0), .second, .val (.long j2), .second, .val (.int i4), .val (.int i5), .val (.ref (n0 + a1)), .val (.int v14)] [(.long x24)])) _
    refine XS.lloadN X23.here hx rfl (hb hby at_243) rfl ?_
    show Steps p.tables e below (T23.setTop (mkF m 244 #[.val (.long j0), .second, .val (.long j2), .second, .val (.int i4), .val (.int i5), .val (.ref (n0 + a1)), .val (.int v14)] [(.long j0), (.long x24)])) _
    refine XS.lcmp X23.here hx rfl (hb hby at_244) rfl ?_
    exact k
  by_cases hc25 : x24 = j0
  · rw [if_pos hc25] at hf
    refine Gl.on (B := T23.setTop (mkF m 253 #[.val (.long j0), .second, .val (.long j2), .second, .val (.int i4), .val (.int i5), .val (.ref (n0 + a1)), .val (.int v14)] [(.int (1 : Int32))])) (fun t k => ?_) ?_
    · show Steps p.tables e below (T23.setTop (mkF m 245 #[.val (.long j0), .second, .val (.long j2), .second, .val (.int i4), .val (.int i5), .val (.ref (n0 + a1)), .val (.int v14)] [(.int (lcmpW x24 j0))])) _
      refine XS.ifNo X23.here hx rfl (hb hby at_245) rfl ((if0 _ _).trans (teq ((lw_eq _ _).mpr hc25)).2) ?_
      show Steps p.tables e below (T23.setTop (mkF m 248 #[.val (.long j0), .second, .val (.long j2), .second, .val (.int i4), .val (.int i5), .val (.ref (n0 + a1)), .val (.int v14)] [])) _
      refine XS.iconst X23.here hx rfl (hb hby at_248) ?_
      show Steps p.tables e below (T23.setTop (mkF m 249 #[.val (.long j0), .second, .val (.long j2), .second, .val (.int i4), .val (.int i5), .val (.ref (n0 + a1)), .val (.int v14)] [(.int (1 : Int32))])) _
      refine XS.goto X23.here hx rfl (pc0 := 249) (pc' := 253) rfl (hb hby at_249) (by decide) (by decide) ?_
      exact k
    obtain ⟨rfl, rfl⟩ := own_inj hf
    exact Gl.outN X23 hx hlk (t := .boolean) hret (by simp) (hb hby at_253) ⟨rfl, N23, by rw [e23]; exact O23⟩ (by show _ ≤ 16; omega) (by show _ ≤ 128; omega)
  · rw [if_neg hc25] at hf
    refine Gl.on (B := T23.setTop (mkF m 253 #[.val (.long j0), .second, .val (.long j2), .second, .val (.int i4), .val (.int i5), .val (.ref (n0 + a1)), .val (.int v14)] [(.int (0 : Int32))])) (fun t k => ?_) ?_
    · show Steps p.tables e below (T23.setTop (mkF m 245 #[.val (.long j0), .second, .val (.long j2), .second, .val (.int i4), .val (.int i5), .val (.ref (n0 + a1)), .val (.int v14)] [(.int (lcmpW x24 j0))])) _
      refine XS.ifYes X23.here hx rfl (pc0 := 245) (pc' := 252) rfl (hb hby at_245) rfl ((if0 _ _).trans (feq (mt (lw_eq _ _).mp hc25)).2) (by decide) (by decide) ?_
      show Steps p.tables e below (T23.setTop (mkF m 252 #[.val (.long j0), .second, .val (.long j2), .second, .val (.int i4), .val (.int i5), .val (.ref (n0 + a1)), .val (.int v14)] [])) _
      refine XS.iconst X23.here hx rfl (hb hby at_252) ?_
      exact k
    obtain ⟨rfl, rfl⟩ := own_inj hf
    exact Gl.outN X23 hx hlk (t := .boolean) hret (by simp) (hb hby at_253) ⟨rfl, N23, by rw [e23]; exact O23⟩ (by show _ ≤ 16; omega) (by show _ ≤ 128; omega)
theorem own_fin (x : Int32) (n : Nat) (h0 : 0 ≤ x.toInt) (h1 : x.toInt < n) : ∃ p : Fin n, x = p.1.toInt32 :=
  ⟨⟨x.toNatClampNeg, by simp only [Int32.toNatClampNeg]; omega⟩, (back32 (by rw [Int32.lt_iff_toInt_lt]; have : (0 : Int32).toInt = 0 := rfl; omega)).1.symm⟩
theorem own_modr (x n : Int32) (hn : 0 < n.toInt) : 0 ≤ ((x &&& (2147483647 : Int32)) % n).toInt ∧ ((x &&& (2147483647 : Int32)) % n).toInt < n.toInt := by
  have e1 := c_and x (2147483647 : Int32) (by decide)
  have e2 := (c_irem (x &&& (2147483647 : Int32)) n n.toInt rfl).1 e1.1
  rw [e2]
  exact ⟨Int.emod_nonneg _ (by omega), Int.emod_lt_of_pos _ hn⟩
theorem own_mm (x n : Int32) (hn : 0 < n.toInt) : ((((x &&& (2147483647 : Int32)) % n) &&& (2147483647 : Int32)) % n) = ((x &&& (2147483647 : Int32)) % n) := by
  obtain ⟨h1, h2⟩ := own_modr x n hn
  have e0 : ((2 ^ 31 : Nat) : Int) = 2147483648 := by decide
  have u := Int32.toInt_lt ((x &&& (2147483647 : Int32)) % n)
  have e1 : (((x &&& (2147483647 : Int32)) % n) &&& (2147483647 : Int32)).toInt = ((x &&& (2147483647 : Int32)) % n).toInt := by
    rw [c_mask _ 2147483647 31 (by decide) (by decide), e0]; omega
  have e2 : (((x &&& (2147483647 : Int32)) % n) &&& (2147483647 : Int32)) = ((x &&& (2147483647 : Int32)) % n) := Int32.toInt_inj.mp e1
  rw [e2]
  apply Int32.toInt_inj.mp
  rw [(c_irem _ n n.toInt rfl).1 h1]
  exact Int.emod_eq_of_lt h1 h2
theorem own_ex {α : Type} {o : Option (Int32 × α)} (h : o.map Prod.fst = some (1 : Int32)) : ∃ D', o = some ((1 : Int32), D') := by
  cases o with
  | none => cases h
  | some q => obtain ⟨x, D⟩ := q; exact ⟨D, by cases h; rfl⟩
theorem own_w0 (x0 x1 x2 x3 x4 x5 x6 x7 x8 x9 x10 x11 v : Value) : wV [(0, [x0, x1, x2, x3, x4, x5, x6, x7, x8, x9, x10, x11])] 0 0 (0 : Int32) v = some [(0, [v, x1, x2, x3, x4, x5, x6, x7, x8, x9, x10, x11])] := rfl
theorem own_r0 (x1 x2 x3 x4 x5 x6 x7 x8 x9 x10 x11 : Value) (v : Int32) : rI [(0, [.int v, x1, x2, x3, x4, x5, x6, x7, x8, x9, x10, x11])] 0 0 (0 : Int32) = some v := rfl
theorem own_w1 (x0 x1 x2 x3 x4 x5 x6 x7 x8 x9 x10 x11 v : Value) : wV [(0, [x0, x1, x2, x3, x4, x5, x6, x7, x8, x9, x10, x11])] 0 0 (1 : Int32) v = some [(0, [x0, v, x2, x3, x4, x5, x6, x7, x8, x9, x10, x11])] := rfl
theorem own_r1 (x0 x2 x3 x4 x5 x6 x7 x8 x9 x10 x11 : Value) (v : Int32) : rI [(0, [x0, .int v, x2, x3, x4, x5, x6, x7, x8, x9, x10, x11])] 0 0 (1 : Int32) = some v := rfl
theorem own_w2 (x0 x1 x2 x3 x4 x5 x6 x7 x8 x9 x10 x11 v : Value) : wV [(0, [x0, x1, x2, x3, x4, x5, x6, x7, x8, x9, x10, x11])] 0 0 (2 : Int32) v = some [(0, [x0, x1, v, x3, x4, x5, x6, x7, x8, x9, x10, x11])] := rfl
theorem own_r2 (x0 x1 x3 x4 x5 x6 x7 x8 x9 x10 x11 : Value) (v : Int32) : rI [(0, [x0, x1, .int v, x3, x4, x5, x6, x7, x8, x9, x10, x11])] 0 0 (2 : Int32) = some v := rfl
theorem own_w3 (x0 x1 x2 x3 x4 x5 x6 x7 x8 x9 x10 x11 v : Value) : wV [(0, [x0, x1, x2, x3, x4, x5, x6, x7, x8, x9, x10, x11])] 0 0 (3 : Int32) v = some [(0, [x0, x1, x2, v, x4, x5, x6, x7, x8, x9, x10, x11])] := rfl
theorem own_r3 (x0 x1 x2 x4 x5 x6 x7 x8 x9 x10 x11 : Value) (v : Int32) : rI [(0, [x0, x1, x2, .int v, x4, x5, x6, x7, x8, x9, x10, x11])] 0 0 (3 : Int32) = some v := rfl
theorem own_w4 (x0 x1 x2 x3 x4 x5 x6 x7 x8 x9 x10 x11 v : Value) : wV [(0, [x0, x1, x2, x3, x4, x5, x6, x7, x8, x9, x10, x11])] 0 0 (4 : Int32) v = some [(0, [x0, x1, x2, x3, v, x5, x6, x7, x8, x9, x10, x11])] := rfl
theorem own_r4 (x0 x1 x2 x3 x5 x6 x7 x8 x9 x10 x11 : Value) (v : Int32) : rI [(0, [x0, x1, x2, x3, .int v, x5, x6, x7, x8, x9, x10, x11])] 0 0 (4 : Int32) = some v := rfl
theorem own_w5 (x0 x1 x2 x3 x4 x5 x6 x7 x8 x9 x10 x11 v : Value) : wV [(0, [x0, x1, x2, x3, x4, x5, x6, x7, x8, x9, x10, x11])] 0 0 (5 : Int32) v = some [(0, [x0, x1, x2, x3, x4, v, x6, x7, x8, x9, x10, x11])] := rfl
theorem own_r5 (x0 x1 x2 x3 x4 x6 x7 x8 x9 x10 x11 : Value) (v : Int32) : rI [(0, [x0, x1, x2, x3, x4, .int v, x6, x7, x8, x9, x10, x11])] 0 0 (5 : Int32) = some v := rfl
theorem own_w6 (x0 x1 x2 x3 x4 x5 x6 x7 x8 x9 x10 x11 v : Value) : wV [(0, [x0, x1, x2, x3, x4, x5, x6, x7, x8, x9, x10, x11])] 0 0 (6 : Int32) v = some [(0, [x0, x1, x2, x3, x4, x5, v, x7, x8, x9, x10, x11])] := rfl
theorem own_r6 (x0 x1 x2 x3 x4 x5 x7 x8 x9 x10 x11 : Value) (v : Int32) : rI [(0, [x0, x1, x2, x3, x4, x5, .int v, x7, x8, x9, x10, x11])] 0 0 (6 : Int32) = some v := rfl
theorem own_w7 (x0 x1 x2 x3 x4 x5 x6 x7 x8 x9 x10 x11 v : Value) : wV [(0, [x0, x1, x2, x3, x4, x5, x6, x7, x8, x9, x10, x11])] 0 0 (7 : Int32) v = some [(0, [x0, x1, x2, x3, x4, x5, x6, v, x8, x9, x10, x11])] := rfl
theorem own_r7 (x0 x1 x2 x3 x4 x5 x6 x8 x9 x10 x11 : Value) (v : Int32) : rI [(0, [x0, x1, x2, x3, x4, x5, x6, .int v, x8, x9, x10, x11])] 0 0 (7 : Int32) = some v := rfl
theorem own_w8 (x0 x1 x2 x3 x4 x5 x6 x7 x8 x9 x10 x11 v : Value) : wV [(0, [x0, x1, x2, x3, x4, x5, x6, x7, x8, x9, x10, x11])] 0 0 (8 : Int32) v = some [(0, [x0, x1, x2, x3, x4, x5, x6, x7, v, x9, x10, x11])] := rfl
theorem own_r8 (x0 x1 x2 x3 x4 x5 x6 x7 x9 x10 x11 : Value) (v : Int32) : rI [(0, [x0, x1, x2, x3, x4, x5, x6, x7, .int v, x9, x10, x11])] 0 0 (8 : Int32) = some v := rfl
theorem own_w9 (x0 x1 x2 x3 x4 x5 x6 x7 x8 x9 x10 x11 v : Value) : wV [(0, [x0, x1, x2, x3, x4, x5, x6, x7, x8, x9, x10, x11])] 0 0 (9 : Int32) v = some [(0, [x0, x1, x2, x3, x4, x5, x6, x7, x8, v, x10, x11])] := rfl
theorem own_r9 (x0 x1 x2 x3 x4 x5 x6 x7 x8 x10 x11 : Value) (v : Int32) : rI [(0, [x0, x1, x2, x3, x4, x5, x6, x7, x8, .int v, x10, x11])] 0 0 (9 : Int32) = some v := rfl
theorem own_w10 (x0 x1 x2 x3 x4 x5 x6 x7 x8 x9 x10 x11 v : Value) : wV [(0, [x0, x1, x2, x3, x4, x5, x6, x7, x8, x9, x10, x11])] 0 0 (10 : Int32) v = some [(0, [x0, x1, x2, x3, x4, x5, x6, x7, x8, x9, v, x11])] := rfl
theorem own_r10 (x0 x1 x2 x3 x4 x5 x6 x7 x8 x9 x11 : Value) (v : Int32) : rI [(0, [x0, x1, x2, x3, x4, x5, x6, x7, x8, x9, .int v, x11])] 0 0 (10 : Int32) = some v := rfl
theorem own_w11 (x0 x1 x2 x3 x4 x5 x6 x7 x8 x9 x10 x11 v : Value) : wV [(0, [x0, x1, x2, x3, x4, x5, x6, x7, x8, x9, x10, x11])] 0 0 (11 : Int32) v = some [(0, [x0, x1, x2, x3, x4, x5, x6, x7, x8, x9, x10, v])] := rfl
theorem own_r11 (x0 x1 x2 x3 x4 x5 x6 x7 x8 x9 x10 : Value) (v : Int32) : rI [(0, [x0, x1, x2, x3, x4, x5, x6, x7, x8, x9, x10, .int v])] 0 0 (11 : Int32) = some v := rfl
theorem own_letU {α β : Type} (a : α) (f : α → β) : own_let a f = f a := rfl
theorem own_n : nA [] 0 (12 : Int32) 12 (.int (0 : Int32)) = some [(0, [.int (0 : Int32), .int (0 : Int32), .int (0 : Int32), .int (0 : Int32), .int (0 : Int32), .int (0 : Int32), .int (0 : Int32), .int (0 : Int32), .int (0 : Int32), .int (0 : Int32), .int (0 : Int32), .int (0 : Int32)])] := rfl
theorem own_b16 (fu : Nat) (D : Hp) (ob0 : Nat) (i1 : Int32) (j2 : Int64) (i4 : Int32) : b1_6 (fu + 1) D ob0 i1 j2 i4 = if i4 < (0 : Int32) then (some (j2, D)) else ((rI D ob0 0 (i1 + i4)).bind fun x2 => b1_6 fu D ob0 i1 ((j2 <<< ((8 : Int32) &&& 0x3f).toInt64) ||| ((x2 &&& (255 : Int32)).toInt64)) (i4 + (-1 : Int32))) := rfl
theorem own_f1e (D : Hp) (ob0 : Nat) (i1 : Int32) : f1 D ob0 i1 = b1_6 12 D ob0 i1 (0 : Int64) (7 : Int32) := rfl
theorem own_st (x : Int64) (b : Int32) (S : Int) (h : (x.toInt - S / 256) % 18446744073709551616 = 0) (hb : (b &&& (255 : Int32)).toInt = S % 256) : (((x <<< ((8 : Int32) &&& 0x3f).toInt64) ||| ((b &&& (255 : Int32)).toInt64)).toInt - S) % 18446744073709551616 = 0 := by
  have e1 : ((x <<< ((8 : Int32) &&& 0x3f).toInt64).toInt - x.toInt * 256) % 18446744073709551616 = 0 := c_lshl x 8 8 (by decide)
  have e2 := c_orL (x <<< ((8 : Int32) &&& 0x3f).toInt64) ((b &&& (255 : Int32)).toInt64) 8 (by decide) 256 (by decide) (by omega) (by rw [c_i2l, hb]; omega) (by rw [c_i2l, hb]; omega)
  rw [c_i2l, hb] at e2
  omega
def own_y (w : Int64) : Int32 := ((w.toInt32).toInt8.toInt32).toInt8.toInt32
theorem own_yb (w : Int64) (S : Int) (h : (w.toInt - S) % 4294967296 = 0) : (own_y w &&& (255 : Int32)).toInt = S % 256 := by
  have e1 := c_l2i w
  have e2 := c_i2b w.toInt32
  have e3 := c_i2b (w.toInt32.toInt8.toInt32)
  rw [c_mask _ 255 8 (by decide) (by decide)]
  unfold own_y
  omega
theorem own_z1 (j : Int64) : (own_y ((j.toUInt64 >>> ((8 : Int32) &&& 0x3f).toInt64.toUInt64).toInt64) &&& (255 : Int32)).toInt = (j.toInt % 18446744073709551616 / 256) % 256 := own_yb _ _ (by have := c_lushr j 8 8 (by decide) (by decide); omega)
theorem own_z2 (j : Int64) : (own_y ((j.toUInt64 >>> ((16 : Int32) &&& 0x3f).toInt64.toUInt64).toInt64) &&& (255 : Int32)).toInt = (j.toInt % 18446744073709551616 / 65536) % 256 := own_yb _ _ (by have := c_lushr j 16 16 (by decide) (by decide); omega)
theorem own_z3 (j : Int64) : (own_y ((j.toUInt64 >>> ((24 : Int32) &&& 0x3f).toInt64.toUInt64).toInt64) &&& (255 : Int32)).toInt = (j.toInt % 18446744073709551616 / 16777216) % 256 := own_yb _ _ (by have := c_lushr j 24 24 (by decide) (by decide); omega)
theorem own_z4 (j : Int64) : (own_y ((j.toUInt64 >>> ((32 : Int32) &&& 0x3f).toInt64.toUInt64).toInt64) &&& (255 : Int32)).toInt = (j.toInt % 18446744073709551616 / 4294967296) % 256 := own_yb _ _ (by have := c_lushr j 32 32 (by decide) (by decide); omega)
theorem own_z5 (j : Int64) : (own_y ((j.toUInt64 >>> ((40 : Int32) &&& 0x3f).toInt64.toUInt64).toInt64) &&& (255 : Int32)).toInt = (j.toInt % 18446744073709551616 / 1099511627776) % 256 := own_yb _ _ (by have := c_lushr j 40 40 (by decide) (by decide); omega)
theorem own_z6 (j : Int64) : (own_y ((j.toUInt64 >>> ((48 : Int32) &&& 0x3f).toInt64.toUInt64).toInt64) &&& (255 : Int32)).toInt = (j.toInt % 18446744073709551616 / 281474976710656) % 256 := own_yb _ _ (by have := c_lushr j 48 48 (by decide) (by decide); omega)
theorem own_z7 (j : Int64) : (own_y ((j.toUInt64 >>> ((56 : Int32) &&& 0x3f).toInt64.toUInt64).toInt64) &&& (255 : Int32)).toInt = (j.toInt % 18446744073709551616 / 72057594037927936) % 256 := own_yb _ _ (by have := c_lushr j 56 56 (by decide) (by decide); omega)
theorem own_z0 (j : Int64) : (own_y j &&& (255 : Int32)).toInt = (j.toInt % 18446744073709551616) % 256 := own_yb _ _ (by omega)
theorem own_p0 (x8 x9 x10 x11 : Value) (j : Int64) (D : Hp) : ∃ v : Int64, f1 [(0, [.int (own_y j), .int (own_y ((j.toUInt64 >>> ((8 : Int32) &&& 0x3f).toInt64.toUInt64).toInt64)), .int (own_y ((j.toUInt64 >>> ((16 : Int32) &&& 0x3f).toInt64.toUInt64).toInt64)), .int (own_y ((j.toUInt64 >>> ((24 : Int32) &&& 0x3f).toInt64.toUInt64).toInt64)), .int (own_y ((j.toUInt64 >>> ((32 : Int32) &&& 0x3f).toInt64.toUInt64).toInt64)), .int (own_y ((j.toUInt64 >>> ((40 : Int32) &&& 0x3f).toInt64.toUInt64).toInt64)), .int (own_y ((j.toUInt64 >>> ((48 : Int32) &&& 0x3f).toInt64.toUInt64).toInt64)), .int (own_y ((j.toUInt64 >>> ((56 : Int32) &&& 0x3f).toInt64.toUInt64).toInt64)), x8, x9, x10, x11])] 0 (0 : Int32) = some (v, [(0, [.int (own_y j), .int (own_y ((j.toUInt64 >>> ((8 : Int32) &&& 0x3f).toInt64.toUInt64).toInt64)), .int (own_y ((j.toUInt64 >>> ((16 : Int32) &&& 0x3f).toInt64.toUInt64).toInt64)), .int (own_y ((j.toUInt64 >>> ((24 : Int32) &&& 0x3f).toInt64.toUInt64).toInt64)), .int (own_y ((j.toUInt64 >>> ((32 : Int32) &&& 0x3f).toInt64.toUInt64).toInt64)), .int (own_y ((j.toUInt64 >>> ((40 : Int32) &&& 0x3f).toInt64.toUInt64).toInt64)), .int (own_y ((j.toUInt64 >>> ((48 : Int32) &&& 0x3f).toInt64.toUInt64).toInt64)), .int (own_y ((j.toUInt64 >>> ((56 : Int32) &&& 0x3f).toInt64.toUInt64).toInt64)), x8, x9, x10, x11])]) ∧ v = j := by
  have hW : 0 ≤ j.toInt % 18446744073709551616 ∧ j.toInt % 18446744073709551616 < 18446744073709551616 := by omega
  have k0 : (0 : Int64).toInt = 0 := by decide
  obtain ⟨v7, hv7⟩ : ∃ z, z = (((0 : Int64) <<< ((8 : Int32) &&& 0x3f).toInt64) ||| (((own_y ((j.toUInt64 >>> ((56 : Int32) &&& 0x3f).toInt64.toUInt64).toInt64)) &&& (255 : Int32)).toInt64)) := ⟨_, rfl⟩
  have t7 := own_st (0 : Int64) (own_y ((j.toUInt64 >>> ((56 : Int32) &&& 0x3f).toInt64.toUInt64).toInt64)) (j.toInt % 18446744073709551616 / 72057594037927936) (by rw [k0]; omega) (own_z7 j)
  rw [← hv7] at t7
  obtain ⟨v6, hv6⟩ : ∃ z, z = ((v7 <<< ((8 : Int32) &&& 0x3f).toInt64) ||| (((own_y ((j.toUInt64 >>> ((48 : Int32) &&& 0x3f).toInt64.toUInt64).toInt64)) &&& (255 : Int32)).toInt64)) := ⟨_, rfl⟩
  have t6 := own_st v7 (own_y ((j.toUInt64 >>> ((48 : Int32) &&& 0x3f).toInt64.toUInt64).toInt64)) (j.toInt % 18446744073709551616 / 281474976710656) (by omega) (own_z6 j)
  rw [← hv6] at t6
  obtain ⟨v5, hv5⟩ : ∃ z, z = ((v6 <<< ((8 : Int32) &&& 0x3f).toInt64) ||| (((own_y ((j.toUInt64 >>> ((40 : Int32) &&& 0x3f).toInt64.toUInt64).toInt64)) &&& (255 : Int32)).toInt64)) := ⟨_, rfl⟩
  have t5 := own_st v6 (own_y ((j.toUInt64 >>> ((40 : Int32) &&& 0x3f).toInt64.toUInt64).toInt64)) (j.toInt % 18446744073709551616 / 1099511627776) (by omega) (own_z5 j)
  rw [← hv5] at t5
  obtain ⟨v4, hv4⟩ : ∃ z, z = ((v5 <<< ((8 : Int32) &&& 0x3f).toInt64) ||| (((own_y ((j.toUInt64 >>> ((32 : Int32) &&& 0x3f).toInt64.toUInt64).toInt64)) &&& (255 : Int32)).toInt64)) := ⟨_, rfl⟩
  have t4 := own_st v5 (own_y ((j.toUInt64 >>> ((32 : Int32) &&& 0x3f).toInt64.toUInt64).toInt64)) (j.toInt % 18446744073709551616 / 4294967296) (by omega) (own_z4 j)
  rw [← hv4] at t4
  obtain ⟨v3, hv3⟩ : ∃ z, z = ((v4 <<< ((8 : Int32) &&& 0x3f).toInt64) ||| (((own_y ((j.toUInt64 >>> ((24 : Int32) &&& 0x3f).toInt64.toUInt64).toInt64)) &&& (255 : Int32)).toInt64)) := ⟨_, rfl⟩
  have t3 := own_st v4 (own_y ((j.toUInt64 >>> ((24 : Int32) &&& 0x3f).toInt64.toUInt64).toInt64)) (j.toInt % 18446744073709551616 / 16777216) (by omega) (own_z3 j)
  rw [← hv3] at t3
  obtain ⟨v2, hv2⟩ : ∃ z, z = ((v3 <<< ((8 : Int32) &&& 0x3f).toInt64) ||| (((own_y ((j.toUInt64 >>> ((16 : Int32) &&& 0x3f).toInt64.toUInt64).toInt64)) &&& (255 : Int32)).toInt64)) := ⟨_, rfl⟩
  have t2 := own_st v3 (own_y ((j.toUInt64 >>> ((16 : Int32) &&& 0x3f).toInt64.toUInt64).toInt64)) (j.toInt % 18446744073709551616 / 65536) (by omega) (own_z2 j)
  rw [← hv2] at t2
  obtain ⟨v1, hv1⟩ : ∃ z, z = ((v2 <<< ((8 : Int32) &&& 0x3f).toInt64) ||| (((own_y ((j.toUInt64 >>> ((8 : Int32) &&& 0x3f).toInt64.toUInt64).toInt64)) &&& (255 : Int32)).toInt64)) := ⟨_, rfl⟩
  have t1 := own_st v2 (own_y ((j.toUInt64 >>> ((8 : Int32) &&& 0x3f).toInt64.toUInt64).toInt64)) (j.toInt % 18446744073709551616 / 256) (by omega) (own_z1 j)
  rw [← hv1] at t1
  obtain ⟨v0, hv0⟩ : ∃ z, z = ((v1 <<< ((8 : Int32) &&& 0x3f).toInt64) ||| (((own_y j) &&& (255 : Int32)).toInt64)) := ⟨_, rfl⟩
  have t0 := own_st v1 (own_y j) (j.toInt % 18446744073709551616) (by omega) (own_z0 j)
  rw [← hv0] at t0
  have a1 := v0.le_toInt; have a2 := v0.toInt_lt; have a3 := j.le_toInt; have a4 := j.toInt_lt
  refine ⟨v0, ?_, Int64.toInt_inj.mp (by omega)⟩
  rw [own_f1e, own_b16, if_neg (by decide), show (0 : Int32) + (7 : Int32) = (7 : Int32) from rfl, own_r7, Option.bind_some, ← hv7, show (7 : Int32) + (-1 : Int32) = (6 : Int32) from rfl, own_b16, if_neg (by decide), show (0 : Int32) + (6 : Int32) = (6 : Int32) from rfl, own_r6, Option.bind_some, ← hv6, show (6 : Int32) + (-1 : Int32) = (5 : Int32) from rfl, own_b16, if_neg (by decide), show (0 : Int32) + (5 : Int32) = (5 : Int32) from rfl, own_r5, Option.bind_some, ← hv5, show (5 : Int32) + (-1 : Int32) = (4 : Int32) from rfl, own_b16, if_neg (by decide), show (0 : Int32) + (4 : Int32) = (4 : Int32) from rfl, own_r4, Option.bind_some, ← hv4, show (4 : Int32) + (-1 : Int32) = (3 : Int32) from rfl, own_b16, if_neg (by decide), show (0 : Int32) + (3 : Int32) = (3 : Int32) from rfl, own_r3, Option.bind_some, ← hv3, show (3 : Int32) + (-1 : Int32) = (2 : Int32) from rfl, own_b16, if_neg (by decide), show (0 : Int32) + (2 : Int32) = (2 : Int32) from rfl, own_r2, Option.bind_some, ← hv2, show (2 : Int32) + (-1 : Int32) = (1 : Int32) from rfl, own_b16, if_neg (by decide), show (0 : Int32) + (1 : Int32) = (1 : Int32) from rfl, own_r1, Option.bind_some, ← hv1, show (1 : Int32) + (-1 : Int32) = (0 : Int32) from rfl, own_b16, if_neg (by decide), show (0 : Int32) + (0 : Int32) = (0 : Int32) from rfl, own_r0, Option.bind_some, ← hv0, show (0 : Int32) + (-1 : Int32) = (-1 : Int32) from rfl, own_b16, if_pos (by decide)]
theorem own_q0 (j0 j2 : Int64) (i4 i5 : Int32) (hv : (i5 &&& (2147483647 : Int32)) % (5 : Int32) = (0 : Int32)) : ∃ D', f0 [] j0 j2 i4 i5 = some ((1 : Int32), D') := by
  apply own_ex
  rw [f0, own_letU, List.length_nil, own_n, Option.bind_some, own_w0, Option.bind_some, own_w1, Option.bind_some, own_w2, Option.bind_some, own_w3, Option.bind_some, own_w4, Option.bind_some, own_w5, Option.bind_some, own_w6, Option.bind_some, own_w7, Option.bind_some, own_w8, Option.bind_some, own_w9, Option.bind_some, own_w10, Option.bind_some, own_w11, Option.bind_some, own_letU, hv, own_w0, Option.bind_some, show (0 : Int32) + (1 : Int32) = (1 : Int32) from rfl, own_w1, Option.bind_some, show (0 : Int32) + (2 : Int32) = (2 : Int32) from rfl, own_w2, Option.bind_some, show (0 : Int32) + (3 : Int32) = (3 : Int32) from rfl, own_w3, Option.bind_some, show (0 : Int32) + (4 : Int32) = (4 : Int32) from rfl, own_w4, Option.bind_some, show (0 : Int32) + (5 : Int32) = (5 : Int32) from rfl, own_w5, Option.bind_some, show (0 : Int32) + (6 : Int32) = (6 : Int32) from rfl, own_w6, Option.bind_some, show (0 : Int32) + (7 : Int32) = (7 : Int32) from rfl, own_w7, Option.bind_some]
  obtain ⟨v, e, hvj⟩ := own_p0 (.int (i4.toInt8.toInt32).toInt8.toInt32) (.int (((i4.toUInt32 >>> ((8 : Int32) &&& 31).toUInt32).toInt32).toInt8.toInt32).toInt8.toInt32) (.int (((i4.toUInt32 >>> ((16 : Int32) &&& 31).toUInt32).toInt32).toInt8.toInt32).toInt8.toInt32) (.int (((i4.toUInt32 >>> ((24 : Int32) &&& 31).toUInt32).toInt32).toInt8.toInt32).toInt8.toInt32) j0 []
  unfold own_y at e
  rw [e, Option.bind_some, own_letU, own_letU]
  dsimp only
  rw [if_pos hvj]
  simp only [Option.map_some]
theorem own_p1 (x0 x9 x10 x11 : Value) (j : Int64) (D : Hp) : ∃ v : Int64, f1 [(0, [x0, .int (own_y j), .int (own_y ((j.toUInt64 >>> ((8 : Int32) &&& 0x3f).toInt64.toUInt64).toInt64)), .int (own_y ((j.toUInt64 >>> ((16 : Int32) &&& 0x3f).toInt64.toUInt64).toInt64)), .int (own_y ((j.toUInt64 >>> ((24 : Int32) &&& 0x3f).toInt64.toUInt64).toInt64)), .int (own_y ((j.toUInt64 >>> ((32 : Int32) &&& 0x3f).toInt64.toUInt64).toInt64)), .int (own_y ((j.toUInt64 >>> ((40 : Int32) &&& 0x3f).toInt64.toUInt64).toInt64)), .int (own_y ((j.toUInt64 >>> ((48 : Int32) &&& 0x3f).toInt64.toUInt64).toInt64)), .int (own_y ((j.toUInt64 >>> ((56 : Int32) &&& 0x3f).toInt64.toUInt64).toInt64)), x9, x10, x11])] 0 (1 : Int32) = some (v, [(0, [x0, .int (own_y j), .int (own_y ((j.toUInt64 >>> ((8 : Int32) &&& 0x3f).toInt64.toUInt64).toInt64)), .int (own_y ((j.toUInt64 >>> ((16 : Int32) &&& 0x3f).toInt64.toUInt64).toInt64)), .int (own_y ((j.toUInt64 >>> ((24 : Int32) &&& 0x3f).toInt64.toUInt64).toInt64)), .int (own_y ((j.toUInt64 >>> ((32 : Int32) &&& 0x3f).toInt64.toUInt64).toInt64)), .int (own_y ((j.toUInt64 >>> ((40 : Int32) &&& 0x3f).toInt64.toUInt64).toInt64)), .int (own_y ((j.toUInt64 >>> ((48 : Int32) &&& 0x3f).toInt64.toUInt64).toInt64)), .int (own_y ((j.toUInt64 >>> ((56 : Int32) &&& 0x3f).toInt64.toUInt64).toInt64)), x9, x10, x11])]) ∧ v = j := by
  have hW : 0 ≤ j.toInt % 18446744073709551616 ∧ j.toInt % 18446744073709551616 < 18446744073709551616 := by omega
  have k0 : (0 : Int64).toInt = 0 := by decide
  obtain ⟨v7, hv7⟩ : ∃ z, z = (((0 : Int64) <<< ((8 : Int32) &&& 0x3f).toInt64) ||| (((own_y ((j.toUInt64 >>> ((56 : Int32) &&& 0x3f).toInt64.toUInt64).toInt64)) &&& (255 : Int32)).toInt64)) := ⟨_, rfl⟩
  have t7 := own_st (0 : Int64) (own_y ((j.toUInt64 >>> ((56 : Int32) &&& 0x3f).toInt64.toUInt64).toInt64)) (j.toInt % 18446744073709551616 / 72057594037927936) (by rw [k0]; omega) (own_z7 j)
  rw [← hv7] at t7
  obtain ⟨v6, hv6⟩ : ∃ z, z = ((v7 <<< ((8 : Int32) &&& 0x3f).toInt64) ||| (((own_y ((j.toUInt64 >>> ((48 : Int32) &&& 0x3f).toInt64.toUInt64).toInt64)) &&& (255 : Int32)).toInt64)) := ⟨_, rfl⟩
  have t6 := own_st v7 (own_y ((j.toUInt64 >>> ((48 : Int32) &&& 0x3f).toInt64.toUInt64).toInt64)) (j.toInt % 18446744073709551616 / 281474976710656) (by omega) (own_z6 j)
  rw [← hv6] at t6
  obtain ⟨v5, hv5⟩ : ∃ z, z = ((v6 <<< ((8 : Int32) &&& 0x3f).toInt64) ||| (((own_y ((j.toUInt64 >>> ((40 : Int32) &&& 0x3f).toInt64.toUInt64).toInt64)) &&& (255 : Int32)).toInt64)) := ⟨_, rfl⟩
  have t5 := own_st v6 (own_y ((j.toUInt64 >>> ((40 : Int32) &&& 0x3f).toInt64.toUInt64).toInt64)) (j.toInt % 18446744073709551616 / 1099511627776) (by omega) (own_z5 j)
  rw [← hv5] at t5
  obtain ⟨v4, hv4⟩ : ∃ z, z = ((v5 <<< ((8 : Int32) &&& 0x3f).toInt64) ||| (((own_y ((j.toUInt64 >>> ((32 : Int32) &&& 0x3f).toInt64.toUInt64).toInt64)) &&& (255 : Int32)).toInt64)) := ⟨_, rfl⟩
  have t4 := own_st v5 (own_y ((j.toUInt64 >>> ((32 : Int32) &&& 0x3f).toInt64.toUInt64).toInt64)) (j.toInt % 18446744073709551616 / 4294967296) (by omega) (own_z4 j)
  rw [← hv4] at t4
  obtain ⟨v3, hv3⟩ : ∃ z, z = ((v4 <<< ((8 : Int32) &&& 0x3f).toInt64) ||| (((own_y ((j.toUInt64 >>> ((24 : Int32) &&& 0x3f).toInt64.toUInt64).toInt64)) &&& (255 : Int32)).toInt64)) := ⟨_, rfl⟩
  have t3 := own_st v4 (own_y ((j.toUInt64 >>> ((24 : Int32) &&& 0x3f).toInt64.toUInt64).toInt64)) (j.toInt % 18446744073709551616 / 16777216) (by omega) (own_z3 j)
  rw [← hv3] at t3
  obtain ⟨v2, hv2⟩ : ∃ z, z = ((v3 <<< ((8 : Int32) &&& 0x3f).toInt64) ||| (((own_y ((j.toUInt64 >>> ((16 : Int32) &&& 0x3f).toInt64.toUInt64).toInt64)) &&& (255 : Int32)).toInt64)) := ⟨_, rfl⟩
  have t2 := own_st v3 (own_y ((j.toUInt64 >>> ((16 : Int32) &&& 0x3f).toInt64.toUInt64).toInt64)) (j.toInt % 18446744073709551616 / 65536) (by omega) (own_z2 j)
  rw [← hv2] at t2
  obtain ⟨v1, hv1⟩ : ∃ z, z = ((v2 <<< ((8 : Int32) &&& 0x3f).toInt64) ||| (((own_y ((j.toUInt64 >>> ((8 : Int32) &&& 0x3f).toInt64.toUInt64).toInt64)) &&& (255 : Int32)).toInt64)) := ⟨_, rfl⟩
  have t1 := own_st v2 (own_y ((j.toUInt64 >>> ((8 : Int32) &&& 0x3f).toInt64.toUInt64).toInt64)) (j.toInt % 18446744073709551616 / 256) (by omega) (own_z1 j)
  rw [← hv1] at t1
  obtain ⟨v0, hv0⟩ : ∃ z, z = ((v1 <<< ((8 : Int32) &&& 0x3f).toInt64) ||| (((own_y j) &&& (255 : Int32)).toInt64)) := ⟨_, rfl⟩
  have t0 := own_st v1 (own_y j) (j.toInt % 18446744073709551616) (by omega) (own_z0 j)
  rw [← hv0] at t0
  have a1 := v0.le_toInt; have a2 := v0.toInt_lt; have a3 := j.le_toInt; have a4 := j.toInt_lt
  refine ⟨v0, ?_, Int64.toInt_inj.mp (by omega)⟩
  rw [own_f1e, own_b16, if_neg (by decide), show (1 : Int32) + (7 : Int32) = (8 : Int32) from rfl, own_r8, Option.bind_some, ← hv7, show (7 : Int32) + (-1 : Int32) = (6 : Int32) from rfl, own_b16, if_neg (by decide), show (1 : Int32) + (6 : Int32) = (7 : Int32) from rfl, own_r7, Option.bind_some, ← hv6, show (6 : Int32) + (-1 : Int32) = (5 : Int32) from rfl, own_b16, if_neg (by decide), show (1 : Int32) + (5 : Int32) = (6 : Int32) from rfl, own_r6, Option.bind_some, ← hv5, show (5 : Int32) + (-1 : Int32) = (4 : Int32) from rfl, own_b16, if_neg (by decide), show (1 : Int32) + (4 : Int32) = (5 : Int32) from rfl, own_r5, Option.bind_some, ← hv4, show (4 : Int32) + (-1 : Int32) = (3 : Int32) from rfl, own_b16, if_neg (by decide), show (1 : Int32) + (3 : Int32) = (4 : Int32) from rfl, own_r4, Option.bind_some, ← hv3, show (3 : Int32) + (-1 : Int32) = (2 : Int32) from rfl, own_b16, if_neg (by decide), show (1 : Int32) + (2 : Int32) = (3 : Int32) from rfl, own_r3, Option.bind_some, ← hv2, show (2 : Int32) + (-1 : Int32) = (1 : Int32) from rfl, own_b16, if_neg (by decide), show (1 : Int32) + (1 : Int32) = (2 : Int32) from rfl, own_r2, Option.bind_some, ← hv1, show (1 : Int32) + (-1 : Int32) = (0 : Int32) from rfl, own_b16, if_neg (by decide), show (1 : Int32) + (0 : Int32) = (1 : Int32) from rfl, own_r1, Option.bind_some, ← hv0, show (0 : Int32) + (-1 : Int32) = (-1 : Int32) from rfl, own_b16, if_pos (by decide)]
theorem own_q1 (j0 j2 : Int64) (i4 i5 : Int32) (hv : (i5 &&& (2147483647 : Int32)) % (5 : Int32) = (1 : Int32)) : ∃ D', f0 [] j0 j2 i4 i5 = some ((1 : Int32), D') := by
  apply own_ex
  rw [f0, own_letU, List.length_nil, own_n, Option.bind_some, own_w0, Option.bind_some, own_w1, Option.bind_some, own_w2, Option.bind_some, own_w3, Option.bind_some, own_w4, Option.bind_some, own_w5, Option.bind_some, own_w6, Option.bind_some, own_w7, Option.bind_some, own_w8, Option.bind_some, own_w9, Option.bind_some, own_w10, Option.bind_some, own_w11, Option.bind_some, own_letU, hv, own_w1, Option.bind_some, show (1 : Int32) + (1 : Int32) = (2 : Int32) from rfl, own_w2, Option.bind_some, show (1 : Int32) + (2 : Int32) = (3 : Int32) from rfl, own_w3, Option.bind_some, show (1 : Int32) + (3 : Int32) = (4 : Int32) from rfl, own_w4, Option.bind_some, show (1 : Int32) + (4 : Int32) = (5 : Int32) from rfl, own_w5, Option.bind_some, show (1 : Int32) + (5 : Int32) = (6 : Int32) from rfl, own_w6, Option.bind_some, show (1 : Int32) + (6 : Int32) = (7 : Int32) from rfl, own_w7, Option.bind_some, show (1 : Int32) + (7 : Int32) = (8 : Int32) from rfl, own_w8, Option.bind_some]
  obtain ⟨v, e, hvj⟩ := own_p1 (.int ((j2.toInt32).toInt8.toInt32).toInt8.toInt32) (.int (((i4.toUInt32 >>> ((8 : Int32) &&& 31).toUInt32).toInt32).toInt8.toInt32).toInt8.toInt32) (.int (((i4.toUInt32 >>> ((16 : Int32) &&& 31).toUInt32).toInt32).toInt8.toInt32).toInt8.toInt32) (.int (((i4.toUInt32 >>> ((24 : Int32) &&& 31).toUInt32).toInt32).toInt8.toInt32).toInt8.toInt32) j0 []
  unfold own_y at e
  rw [e, Option.bind_some, own_letU, own_letU]
  dsimp only
  rw [if_pos hvj]
  simp only [Option.map_some]
theorem own_p2 (x0 x1 x10 x11 : Value) (j : Int64) (D : Hp) : ∃ v : Int64, f1 [(0, [x0, x1, .int (own_y j), .int (own_y ((j.toUInt64 >>> ((8 : Int32) &&& 0x3f).toInt64.toUInt64).toInt64)), .int (own_y ((j.toUInt64 >>> ((16 : Int32) &&& 0x3f).toInt64.toUInt64).toInt64)), .int (own_y ((j.toUInt64 >>> ((24 : Int32) &&& 0x3f).toInt64.toUInt64).toInt64)), .int (own_y ((j.toUInt64 >>> ((32 : Int32) &&& 0x3f).toInt64.toUInt64).toInt64)), .int (own_y ((j.toUInt64 >>> ((40 : Int32) &&& 0x3f).toInt64.toUInt64).toInt64)), .int (own_y ((j.toUInt64 >>> ((48 : Int32) &&& 0x3f).toInt64.toUInt64).toInt64)), .int (own_y ((j.toUInt64 >>> ((56 : Int32) &&& 0x3f).toInt64.toUInt64).toInt64)), x10, x11])] 0 (2 : Int32) = some (v, [(0, [x0, x1, .int (own_y j), .int (own_y ((j.toUInt64 >>> ((8 : Int32) &&& 0x3f).toInt64.toUInt64).toInt64)), .int (own_y ((j.toUInt64 >>> ((16 : Int32) &&& 0x3f).toInt64.toUInt64).toInt64)), .int (own_y ((j.toUInt64 >>> ((24 : Int32) &&& 0x3f).toInt64.toUInt64).toInt64)), .int (own_y ((j.toUInt64 >>> ((32 : Int32) &&& 0x3f).toInt64.toUInt64).toInt64)), .int (own_y ((j.toUInt64 >>> ((40 : Int32) &&& 0x3f).toInt64.toUInt64).toInt64)), .int (own_y ((j.toUInt64 >>> ((48 : Int32) &&& 0x3f).toInt64.toUInt64).toInt64)), .int (own_y ((j.toUInt64 >>> ((56 : Int32) &&& 0x3f).toInt64.toUInt64).toInt64)), x10, x11])]) ∧ v = j := by
  have hW : 0 ≤ j.toInt % 18446744073709551616 ∧ j.toInt % 18446744073709551616 < 18446744073709551616 := by omega
  have k0 : (0 : Int64).toInt = 0 := by decide
  obtain ⟨v7, hv7⟩ : ∃ z, z = (((0 : Int64) <<< ((8 : Int32) &&& 0x3f).toInt64) ||| (((own_y ((j.toUInt64 >>> ((56 : Int32) &&& 0x3f).toInt64.toUInt64).toInt64)) &&& (255 : Int32)).toInt64)) := ⟨_, rfl⟩
  have t7 := own_st (0 : Int64) (own_y ((j.toUInt64 >>> ((56 : Int32) &&& 0x3f).toInt64.toUInt64).toInt64)) (j.toInt % 18446744073709551616 / 72057594037927936) (by rw [k0]; omega) (own_z7 j)
  rw [← hv7] at t7
  obtain ⟨v6, hv6⟩ : ∃ z, z = ((v7 <<< ((8 : Int32) &&& 0x3f).toInt64) ||| (((own_y ((j.toUInt64 >>> ((48 : Int32) &&& 0x3f).toInt64.toUInt64).toInt64)) &&& (255 : Int32)).toInt64)) := ⟨_, rfl⟩
  have t6 := own_st v7 (own_y ((j.toUInt64 >>> ((48 : Int32) &&& 0x3f).toInt64.toUInt64).toInt64)) (j.toInt % 18446744073709551616 / 281474976710656) (by omega) (own_z6 j)
  rw [← hv6] at t6
  obtain ⟨v5, hv5⟩ : ∃ z, z = ((v6 <<< ((8 : Int32) &&& 0x3f).toInt64) ||| (((own_y ((j.toUInt64 >>> ((40 : Int32) &&& 0x3f).toInt64.toUInt64).toInt64)) &&& (255 : Int32)).toInt64)) := ⟨_, rfl⟩
  have t5 := own_st v6 (own_y ((j.toUInt64 >>> ((40 : Int32) &&& 0x3f).toInt64.toUInt64).toInt64)) (j.toInt % 18446744073709551616 / 1099511627776) (by omega) (own_z5 j)
  rw [← hv5] at t5
  obtain ⟨v4, hv4⟩ : ∃ z, z = ((v5 <<< ((8 : Int32) &&& 0x3f).toInt64) ||| (((own_y ((j.toUInt64 >>> ((32 : Int32) &&& 0x3f).toInt64.toUInt64).toInt64)) &&& (255 : Int32)).toInt64)) := ⟨_, rfl⟩
  have t4 := own_st v5 (own_y ((j.toUInt64 >>> ((32 : Int32) &&& 0x3f).toInt64.toUInt64).toInt64)) (j.toInt % 18446744073709551616 / 4294967296) (by omega) (own_z4 j)
  rw [← hv4] at t4
  obtain ⟨v3, hv3⟩ : ∃ z, z = ((v4 <<< ((8 : Int32) &&& 0x3f).toInt64) ||| (((own_y ((j.toUInt64 >>> ((24 : Int32) &&& 0x3f).toInt64.toUInt64).toInt64)) &&& (255 : Int32)).toInt64)) := ⟨_, rfl⟩
  have t3 := own_st v4 (own_y ((j.toUInt64 >>> ((24 : Int32) &&& 0x3f).toInt64.toUInt64).toInt64)) (j.toInt % 18446744073709551616 / 16777216) (by omega) (own_z3 j)
  rw [← hv3] at t3
  obtain ⟨v2, hv2⟩ : ∃ z, z = ((v3 <<< ((8 : Int32) &&& 0x3f).toInt64) ||| (((own_y ((j.toUInt64 >>> ((16 : Int32) &&& 0x3f).toInt64.toUInt64).toInt64)) &&& (255 : Int32)).toInt64)) := ⟨_, rfl⟩
  have t2 := own_st v3 (own_y ((j.toUInt64 >>> ((16 : Int32) &&& 0x3f).toInt64.toUInt64).toInt64)) (j.toInt % 18446744073709551616 / 65536) (by omega) (own_z2 j)
  rw [← hv2] at t2
  obtain ⟨v1, hv1⟩ : ∃ z, z = ((v2 <<< ((8 : Int32) &&& 0x3f).toInt64) ||| (((own_y ((j.toUInt64 >>> ((8 : Int32) &&& 0x3f).toInt64.toUInt64).toInt64)) &&& (255 : Int32)).toInt64)) := ⟨_, rfl⟩
  have t1 := own_st v2 (own_y ((j.toUInt64 >>> ((8 : Int32) &&& 0x3f).toInt64.toUInt64).toInt64)) (j.toInt % 18446744073709551616 / 256) (by omega) (own_z1 j)
  rw [← hv1] at t1
  obtain ⟨v0, hv0⟩ : ∃ z, z = ((v1 <<< ((8 : Int32) &&& 0x3f).toInt64) ||| (((own_y j) &&& (255 : Int32)).toInt64)) := ⟨_, rfl⟩
  have t0 := own_st v1 (own_y j) (j.toInt % 18446744073709551616) (by omega) (own_z0 j)
  rw [← hv0] at t0
  have a1 := v0.le_toInt; have a2 := v0.toInt_lt; have a3 := j.le_toInt; have a4 := j.toInt_lt
  refine ⟨v0, ?_, Int64.toInt_inj.mp (by omega)⟩
  rw [own_f1e, own_b16, if_neg (by decide), show (2 : Int32) + (7 : Int32) = (9 : Int32) from rfl, own_r9, Option.bind_some, ← hv7, show (7 : Int32) + (-1 : Int32) = (6 : Int32) from rfl, own_b16, if_neg (by decide), show (2 : Int32) + (6 : Int32) = (8 : Int32) from rfl, own_r8, Option.bind_some, ← hv6, show (6 : Int32) + (-1 : Int32) = (5 : Int32) from rfl, own_b16, if_neg (by decide), show (2 : Int32) + (5 : Int32) = (7 : Int32) from rfl, own_r7, Option.bind_some, ← hv5, show (5 : Int32) + (-1 : Int32) = (4 : Int32) from rfl, own_b16, if_neg (by decide), show (2 : Int32) + (4 : Int32) = (6 : Int32) from rfl, own_r6, Option.bind_some, ← hv4, show (4 : Int32) + (-1 : Int32) = (3 : Int32) from rfl, own_b16, if_neg (by decide), show (2 : Int32) + (3 : Int32) = (5 : Int32) from rfl, own_r5, Option.bind_some, ← hv3, show (3 : Int32) + (-1 : Int32) = (2 : Int32) from rfl, own_b16, if_neg (by decide), show (2 : Int32) + (2 : Int32) = (4 : Int32) from rfl, own_r4, Option.bind_some, ← hv2, show (2 : Int32) + (-1 : Int32) = (1 : Int32) from rfl, own_b16, if_neg (by decide), show (2 : Int32) + (1 : Int32) = (3 : Int32) from rfl, own_r3, Option.bind_some, ← hv1, show (1 : Int32) + (-1 : Int32) = (0 : Int32) from rfl, own_b16, if_neg (by decide), show (2 : Int32) + (0 : Int32) = (2 : Int32) from rfl, own_r2, Option.bind_some, ← hv0, show (0 : Int32) + (-1 : Int32) = (-1 : Int32) from rfl, own_b16, if_pos (by decide)]
theorem own_q2 (j0 j2 : Int64) (i4 i5 : Int32) (hv : (i5 &&& (2147483647 : Int32)) % (5 : Int32) = (2 : Int32)) : ∃ D', f0 [] j0 j2 i4 i5 = some ((1 : Int32), D') := by
  apply own_ex
  rw [f0, own_letU, List.length_nil, own_n, Option.bind_some, own_w0, Option.bind_some, own_w1, Option.bind_some, own_w2, Option.bind_some, own_w3, Option.bind_some, own_w4, Option.bind_some, own_w5, Option.bind_some, own_w6, Option.bind_some, own_w7, Option.bind_some, own_w8, Option.bind_some, own_w9, Option.bind_some, own_w10, Option.bind_some, own_w11, Option.bind_some, own_letU, hv, own_w2, Option.bind_some, show (2 : Int32) + (1 : Int32) = (3 : Int32) from rfl, own_w3, Option.bind_some, show (2 : Int32) + (2 : Int32) = (4 : Int32) from rfl, own_w4, Option.bind_some, show (2 : Int32) + (3 : Int32) = (5 : Int32) from rfl, own_w5, Option.bind_some, show (2 : Int32) + (4 : Int32) = (6 : Int32) from rfl, own_w6, Option.bind_some, show (2 : Int32) + (5 : Int32) = (7 : Int32) from rfl, own_w7, Option.bind_some, show (2 : Int32) + (6 : Int32) = (8 : Int32) from rfl, own_w8, Option.bind_some, show (2 : Int32) + (7 : Int32) = (9 : Int32) from rfl, own_w9, Option.bind_some]
  obtain ⟨v, e, hvj⟩ := own_p2 (.int ((j2.toInt32).toInt8.toInt32).toInt8.toInt32) (.int ((((j2.toUInt64 >>> ((8 : Int32) &&& 0x3f).toInt64.toUInt64).toInt64).toInt32).toInt8.toInt32).toInt8.toInt32) (.int (((i4.toUInt32 >>> ((16 : Int32) &&& 31).toUInt32).toInt32).toInt8.toInt32).toInt8.toInt32) (.int (((i4.toUInt32 >>> ((24 : Int32) &&& 31).toUInt32).toInt32).toInt8.toInt32).toInt8.toInt32) j0 []
  unfold own_y at e
  rw [e, Option.bind_some, own_letU, own_letU]
  dsimp only
  rw [if_pos hvj]
  simp only [Option.map_some]
theorem own_p3 (x0 x1 x2 x11 : Value) (j : Int64) (D : Hp) : ∃ v : Int64, f1 [(0, [x0, x1, x2, .int (own_y j), .int (own_y ((j.toUInt64 >>> ((8 : Int32) &&& 0x3f).toInt64.toUInt64).toInt64)), .int (own_y ((j.toUInt64 >>> ((16 : Int32) &&& 0x3f).toInt64.toUInt64).toInt64)), .int (own_y ((j.toUInt64 >>> ((24 : Int32) &&& 0x3f).toInt64.toUInt64).toInt64)), .int (own_y ((j.toUInt64 >>> ((32 : Int32) &&& 0x3f).toInt64.toUInt64).toInt64)), .int (own_y ((j.toUInt64 >>> ((40 : Int32) &&& 0x3f).toInt64.toUInt64).toInt64)), .int (own_y ((j.toUInt64 >>> ((48 : Int32) &&& 0x3f).toInt64.toUInt64).toInt64)), .int (own_y ((j.toUInt64 >>> ((56 : Int32) &&& 0x3f).toInt64.toUInt64).toInt64)), x11])] 0 (3 : Int32) = some (v, [(0, [x0, x1, x2, .int (own_y j), .int (own_y ((j.toUInt64 >>> ((8 : Int32) &&& 0x3f).toInt64.toUInt64).toInt64)), .int (own_y ((j.toUInt64 >>> ((16 : Int32) &&& 0x3f).toInt64.toUInt64).toInt64)), .int (own_y ((j.toUInt64 >>> ((24 : Int32) &&& 0x3f).toInt64.toUInt64).toInt64)), .int (own_y ((j.toUInt64 >>> ((32 : Int32) &&& 0x3f).toInt64.toUInt64).toInt64)), .int (own_y ((j.toUInt64 >>> ((40 : Int32) &&& 0x3f).toInt64.toUInt64).toInt64)), .int (own_y ((j.toUInt64 >>> ((48 : Int32) &&& 0x3f).toInt64.toUInt64).toInt64)), .int (own_y ((j.toUInt64 >>> ((56 : Int32) &&& 0x3f).toInt64.toUInt64).toInt64)), x11])]) ∧ v = j := by
  have hW : 0 ≤ j.toInt % 18446744073709551616 ∧ j.toInt % 18446744073709551616 < 18446744073709551616 := by omega
  have k0 : (0 : Int64).toInt = 0 := by decide
  obtain ⟨v7, hv7⟩ : ∃ z, z = (((0 : Int64) <<< ((8 : Int32) &&& 0x3f).toInt64) ||| (((own_y ((j.toUInt64 >>> ((56 : Int32) &&& 0x3f).toInt64.toUInt64).toInt64)) &&& (255 : Int32)).toInt64)) := ⟨_, rfl⟩
  have t7 := own_st (0 : Int64) (own_y ((j.toUInt64 >>> ((56 : Int32) &&& 0x3f).toInt64.toUInt64).toInt64)) (j.toInt % 18446744073709551616 / 72057594037927936) (by rw [k0]; omega) (own_z7 j)
  rw [← hv7] at t7
  obtain ⟨v6, hv6⟩ : ∃ z, z = ((v7 <<< ((8 : Int32) &&& 0x3f).toInt64) ||| (((own_y ((j.toUInt64 >>> ((48 : Int32) &&& 0x3f).toInt64.toUInt64).toInt64)) &&& (255 : Int32)).toInt64)) := ⟨_, rfl⟩
  have t6 := own_st v7 (own_y ((j.toUInt64 >>> ((48 : Int32) &&& 0x3f).toInt64.toUInt64).toInt64)) (j.toInt % 18446744073709551616 / 281474976710656) (by omega) (own_z6 j)
  rw [← hv6] at t6
  obtain ⟨v5, hv5⟩ : ∃ z, z = ((v6 <<< ((8 : Int32) &&& 0x3f).toInt64) ||| (((own_y ((j.toUInt64 >>> ((40 : Int32) &&& 0x3f).toInt64.toUInt64).toInt64)) &&& (255 : Int32)).toInt64)) := ⟨_, rfl⟩
  have t5 := own_st v6 (own_y ((j.toUInt64 >>> ((40 : Int32) &&& 0x3f).toInt64.toUInt64).toInt64)) (j.toInt % 18446744073709551616 / 1099511627776) (by omega) (own_z5 j)
  rw [← hv5] at t5
  obtain ⟨v4, hv4⟩ : ∃ z, z = ((v5 <<< ((8 : Int32) &&& 0x3f).toInt64) ||| (((own_y ((j.toUInt64 >>> ((32 : Int32) &&& 0x3f).toInt64.toUInt64).toInt64)) &&& (255 : Int32)).toInt64)) := ⟨_, rfl⟩
  have t4 := own_st v5 (own_y ((j.toUInt64 >>> ((32 : Int32) &&& 0x3f).toInt64.toUInt64).toInt64)) (j.toInt % 18446744073709551616 / 4294967296) (by omega) (own_z4 j)
  rw [← hv4] at t4
  obtain ⟨v3, hv3⟩ : ∃ z, z = ((v4 <<< ((8 : Int32) &&& 0x3f).toInt64) ||| (((own_y ((j.toUInt64 >>> ((24 : Int32) &&& 0x3f).toInt64.toUInt64).toInt64)) &&& (255 : Int32)).toInt64)) := ⟨_, rfl⟩
  have t3 := own_st v4 (own_y ((j.toUInt64 >>> ((24 : Int32) &&& 0x3f).toInt64.toUInt64).toInt64)) (j.toInt % 18446744073709551616 / 16777216) (by omega) (own_z3 j)
  rw [← hv3] at t3
  obtain ⟨v2, hv2⟩ : ∃ z, z = ((v3 <<< ((8 : Int32) &&& 0x3f).toInt64) ||| (((own_y ((j.toUInt64 >>> ((16 : Int32) &&& 0x3f).toInt64.toUInt64).toInt64)) &&& (255 : Int32)).toInt64)) := ⟨_, rfl⟩
  have t2 := own_st v3 (own_y ((j.toUInt64 >>> ((16 : Int32) &&& 0x3f).toInt64.toUInt64).toInt64)) (j.toInt % 18446744073709551616 / 65536) (by omega) (own_z2 j)
  rw [← hv2] at t2
  obtain ⟨v1, hv1⟩ : ∃ z, z = ((v2 <<< ((8 : Int32) &&& 0x3f).toInt64) ||| (((own_y ((j.toUInt64 >>> ((8 : Int32) &&& 0x3f).toInt64.toUInt64).toInt64)) &&& (255 : Int32)).toInt64)) := ⟨_, rfl⟩
  have t1 := own_st v2 (own_y ((j.toUInt64 >>> ((8 : Int32) &&& 0x3f).toInt64.toUInt64).toInt64)) (j.toInt % 18446744073709551616 / 256) (by omega) (own_z1 j)
  rw [← hv1] at t1
  obtain ⟨v0, hv0⟩ : ∃ z, z = ((v1 <<< ((8 : Int32) &&& 0x3f).toInt64) ||| (((own_y j) &&& (255 : Int32)).toInt64)) := ⟨_, rfl⟩
  have t0 := own_st v1 (own_y j) (j.toInt % 18446744073709551616) (by omega) (own_z0 j)
  rw [← hv0] at t0
  have a1 := v0.le_toInt; have a2 := v0.toInt_lt; have a3 := j.le_toInt; have a4 := j.toInt_lt
  refine ⟨v0, ?_, Int64.toInt_inj.mp (by omega)⟩
  rw [own_f1e, own_b16, if_neg (by decide), show (3 : Int32) + (7 : Int32) = (10 : Int32) from rfl, own_r10, Option.bind_some, ← hv7, show (7 : Int32) + (-1 : Int32) = (6 : Int32) from rfl, own_b16, if_neg (by decide), show (3 : Int32) + (6 : Int32) = (9 : Int32) from rfl, own_r9, Option.bind_some, ← hv6, show (6 : Int32) + (-1 : Int32) = (5 : Int32) from rfl, own_b16, if_neg (by decide), show (3 : Int32) + (5 : Int32) = (8 : Int32) from rfl, own_r8, Option.bind_some, ← hv5, show (5 : Int32) + (-1 : Int32) = (4 : Int32) from rfl, own_b16, if_neg (by decide), show (3 : Int32) + (4 : Int32) = (7 : Int32) from rfl, own_r7, Option.bind_some, ← hv4, show (4 : Int32) + (-1 : Int32) = (3 : Int32) from rfl, own_b16, if_neg (by decide), show (3 : Int32) + (3 : Int32) = (6 : Int32) from rfl, own_r6, Option.bind_some, ← hv3, show (3 : Int32) + (-1 : Int32) = (2 : Int32) from rfl, own_b16, if_neg (by decide), show (3 : Int32) + (2 : Int32) = (5 : Int32) from rfl, own_r5, Option.bind_some, ← hv2, show (2 : Int32) + (-1 : Int32) = (1 : Int32) from rfl, own_b16, if_neg (by decide), show (3 : Int32) + (1 : Int32) = (4 : Int32) from rfl, own_r4, Option.bind_some, ← hv1, show (1 : Int32) + (-1 : Int32) = (0 : Int32) from rfl, own_b16, if_neg (by decide), show (3 : Int32) + (0 : Int32) = (3 : Int32) from rfl, own_r3, Option.bind_some, ← hv0, show (0 : Int32) + (-1 : Int32) = (-1 : Int32) from rfl, own_b16, if_pos (by decide)]
theorem own_q3 (j0 j2 : Int64) (i4 i5 : Int32) (hv : (i5 &&& (2147483647 : Int32)) % (5 : Int32) = (3 : Int32)) : ∃ D', f0 [] j0 j2 i4 i5 = some ((1 : Int32), D') := by
  apply own_ex
  rw [f0, own_letU, List.length_nil, own_n, Option.bind_some, own_w0, Option.bind_some, own_w1, Option.bind_some, own_w2, Option.bind_some, own_w3, Option.bind_some, own_w4, Option.bind_some, own_w5, Option.bind_some, own_w6, Option.bind_some, own_w7, Option.bind_some, own_w8, Option.bind_some, own_w9, Option.bind_some, own_w10, Option.bind_some, own_w11, Option.bind_some, own_letU, hv, own_w3, Option.bind_some, show (3 : Int32) + (1 : Int32) = (4 : Int32) from rfl, own_w4, Option.bind_some, show (3 : Int32) + (2 : Int32) = (5 : Int32) from rfl, own_w5, Option.bind_some, show (3 : Int32) + (3 : Int32) = (6 : Int32) from rfl, own_w6, Option.bind_some, show (3 : Int32) + (4 : Int32) = (7 : Int32) from rfl, own_w7, Option.bind_some, show (3 : Int32) + (5 : Int32) = (8 : Int32) from rfl, own_w8, Option.bind_some, show (3 : Int32) + (6 : Int32) = (9 : Int32) from rfl, own_w9, Option.bind_some, show (3 : Int32) + (7 : Int32) = (10 : Int32) from rfl, own_w10, Option.bind_some]
  obtain ⟨v, e, hvj⟩ := own_p3 (.int ((j2.toInt32).toInt8.toInt32).toInt8.toInt32) (.int ((((j2.toUInt64 >>> ((8 : Int32) &&& 0x3f).toInt64.toUInt64).toInt64).toInt32).toInt8.toInt32).toInt8.toInt32) (.int ((((j2.toUInt64 >>> ((16 : Int32) &&& 0x3f).toInt64.toUInt64).toInt64).toInt32).toInt8.toInt32).toInt8.toInt32) (.int (((i4.toUInt32 >>> ((24 : Int32) &&& 31).toUInt32).toInt32).toInt8.toInt32).toInt8.toInt32) j0 []
  unfold own_y at e
  rw [e, Option.bind_some, own_letU, own_letU]
  dsimp only
  rw [if_pos hvj]
  simp only [Option.map_some]
theorem own_p4 (x0 x1 x2 x3 : Value) (j : Int64) (D : Hp) : ∃ v : Int64, f1 [(0, [x0, x1, x2, x3, .int (own_y j), .int (own_y ((j.toUInt64 >>> ((8 : Int32) &&& 0x3f).toInt64.toUInt64).toInt64)), .int (own_y ((j.toUInt64 >>> ((16 : Int32) &&& 0x3f).toInt64.toUInt64).toInt64)), .int (own_y ((j.toUInt64 >>> ((24 : Int32) &&& 0x3f).toInt64.toUInt64).toInt64)), .int (own_y ((j.toUInt64 >>> ((32 : Int32) &&& 0x3f).toInt64.toUInt64).toInt64)), .int (own_y ((j.toUInt64 >>> ((40 : Int32) &&& 0x3f).toInt64.toUInt64).toInt64)), .int (own_y ((j.toUInt64 >>> ((48 : Int32) &&& 0x3f).toInt64.toUInt64).toInt64)), .int (own_y ((j.toUInt64 >>> ((56 : Int32) &&& 0x3f).toInt64.toUInt64).toInt64))])] 0 (4 : Int32) = some (v, [(0, [x0, x1, x2, x3, .int (own_y j), .int (own_y ((j.toUInt64 >>> ((8 : Int32) &&& 0x3f).toInt64.toUInt64).toInt64)), .int (own_y ((j.toUInt64 >>> ((16 : Int32) &&& 0x3f).toInt64.toUInt64).toInt64)), .int (own_y ((j.toUInt64 >>> ((24 : Int32) &&& 0x3f).toInt64.toUInt64).toInt64)), .int (own_y ((j.toUInt64 >>> ((32 : Int32) &&& 0x3f).toInt64.toUInt64).toInt64)), .int (own_y ((j.toUInt64 >>> ((40 : Int32) &&& 0x3f).toInt64.toUInt64).toInt64)), .int (own_y ((j.toUInt64 >>> ((48 : Int32) &&& 0x3f).toInt64.toUInt64).toInt64)), .int (own_y ((j.toUInt64 >>> ((56 : Int32) &&& 0x3f).toInt64.toUInt64).toInt64))])]) ∧ v = j := by
  have hW : 0 ≤ j.toInt % 18446744073709551616 ∧ j.toInt % 18446744073709551616 < 18446744073709551616 := by omega
  have k0 : (0 : Int64).toInt = 0 := by decide
  obtain ⟨v7, hv7⟩ : ∃ z, z = (((0 : Int64) <<< ((8 : Int32) &&& 0x3f).toInt64) ||| (((own_y ((j.toUInt64 >>> ((56 : Int32) &&& 0x3f).toInt64.toUInt64).toInt64)) &&& (255 : Int32)).toInt64)) := ⟨_, rfl⟩
  have t7 := own_st (0 : Int64) (own_y ((j.toUInt64 >>> ((56 : Int32) &&& 0x3f).toInt64.toUInt64).toInt64)) (j.toInt % 18446744073709551616 / 72057594037927936) (by rw [k0]; omega) (own_z7 j)
  rw [← hv7] at t7
  obtain ⟨v6, hv6⟩ : ∃ z, z = ((v7 <<< ((8 : Int32) &&& 0x3f).toInt64) ||| (((own_y ((j.toUInt64 >>> ((48 : Int32) &&& 0x3f).toInt64.toUInt64).toInt64)) &&& (255 : Int32)).toInt64)) := ⟨_, rfl⟩
  have t6 := own_st v7 (own_y ((j.toUInt64 >>> ((48 : Int32) &&& 0x3f).toInt64.toUInt64).toInt64)) (j.toInt % 18446744073709551616 / 281474976710656) (by omega) (own_z6 j)
  rw [← hv6] at t6
  obtain ⟨v5, hv5⟩ : ∃ z, z = ((v6 <<< ((8 : Int32) &&& 0x3f).toInt64) ||| (((own_y ((j.toUInt64 >>> ((40 : Int32) &&& 0x3f).toInt64.toUInt64).toInt64)) &&& (255 : Int32)).toInt64)) := ⟨_, rfl⟩
  have t5 := own_st v6 (own_y ((j.toUInt64 >>> ((40 : Int32) &&& 0x3f).toInt64.toUInt64).toInt64)) (j.toInt % 18446744073709551616 / 1099511627776) (by omega) (own_z5 j)
  rw [← hv5] at t5
  obtain ⟨v4, hv4⟩ : ∃ z, z = ((v5 <<< ((8 : Int32) &&& 0x3f).toInt64) ||| (((own_y ((j.toUInt64 >>> ((32 : Int32) &&& 0x3f).toInt64.toUInt64).toInt64)) &&& (255 : Int32)).toInt64)) := ⟨_, rfl⟩
  have t4 := own_st v5 (own_y ((j.toUInt64 >>> ((32 : Int32) &&& 0x3f).toInt64.toUInt64).toInt64)) (j.toInt % 18446744073709551616 / 4294967296) (by omega) (own_z4 j)
  rw [← hv4] at t4
  obtain ⟨v3, hv3⟩ : ∃ z, z = ((v4 <<< ((8 : Int32) &&& 0x3f).toInt64) ||| (((own_y ((j.toUInt64 >>> ((24 : Int32) &&& 0x3f).toInt64.toUInt64).toInt64)) &&& (255 : Int32)).toInt64)) := ⟨_, rfl⟩
  have t3 := own_st v4 (own_y ((j.toUInt64 >>> ((24 : Int32) &&& 0x3f).toInt64.toUInt64).toInt64)) (j.toInt % 18446744073709551616 / 16777216) (by omega) (own_z3 j)
  rw [← hv3] at t3
  obtain ⟨v2, hv2⟩ : ∃ z, z = ((v3 <<< ((8 : Int32) &&& 0x3f).toInt64) ||| (((own_y ((j.toUInt64 >>> ((16 : Int32) &&& 0x3f).toInt64.toUInt64).toInt64)) &&& (255 : Int32)).toInt64)) := ⟨_, rfl⟩
  have t2 := own_st v3 (own_y ((j.toUInt64 >>> ((16 : Int32) &&& 0x3f).toInt64.toUInt64).toInt64)) (j.toInt % 18446744073709551616 / 65536) (by omega) (own_z2 j)
  rw [← hv2] at t2
  obtain ⟨v1, hv1⟩ : ∃ z, z = ((v2 <<< ((8 : Int32) &&& 0x3f).toInt64) ||| (((own_y ((j.toUInt64 >>> ((8 : Int32) &&& 0x3f).toInt64.toUInt64).toInt64)) &&& (255 : Int32)).toInt64)) := ⟨_, rfl⟩
  have t1 := own_st v2 (own_y ((j.toUInt64 >>> ((8 : Int32) &&& 0x3f).toInt64.toUInt64).toInt64)) (j.toInt % 18446744073709551616 / 256) (by omega) (own_z1 j)
  rw [← hv1] at t1
  obtain ⟨v0, hv0⟩ : ∃ z, z = ((v1 <<< ((8 : Int32) &&& 0x3f).toInt64) ||| (((own_y j) &&& (255 : Int32)).toInt64)) := ⟨_, rfl⟩
  have t0 := own_st v1 (own_y j) (j.toInt % 18446744073709551616) (by omega) (own_z0 j)
  rw [← hv0] at t0
  have a1 := v0.le_toInt; have a2 := v0.toInt_lt; have a3 := j.le_toInt; have a4 := j.toInt_lt
  refine ⟨v0, ?_, Int64.toInt_inj.mp (by omega)⟩
  rw [own_f1e, own_b16, if_neg (by decide), show (4 : Int32) + (7 : Int32) = (11 : Int32) from rfl, own_r11, Option.bind_some, ← hv7, show (7 : Int32) + (-1 : Int32) = (6 : Int32) from rfl, own_b16, if_neg (by decide), show (4 : Int32) + (6 : Int32) = (10 : Int32) from rfl, own_r10, Option.bind_some, ← hv6, show (6 : Int32) + (-1 : Int32) = (5 : Int32) from rfl, own_b16, if_neg (by decide), show (4 : Int32) + (5 : Int32) = (9 : Int32) from rfl, own_r9, Option.bind_some, ← hv5, show (5 : Int32) + (-1 : Int32) = (4 : Int32) from rfl, own_b16, if_neg (by decide), show (4 : Int32) + (4 : Int32) = (8 : Int32) from rfl, own_r8, Option.bind_some, ← hv4, show (4 : Int32) + (-1 : Int32) = (3 : Int32) from rfl, own_b16, if_neg (by decide), show (4 : Int32) + (3 : Int32) = (7 : Int32) from rfl, own_r7, Option.bind_some, ← hv3, show (3 : Int32) + (-1 : Int32) = (2 : Int32) from rfl, own_b16, if_neg (by decide), show (4 : Int32) + (2 : Int32) = (6 : Int32) from rfl, own_r6, Option.bind_some, ← hv2, show (2 : Int32) + (-1 : Int32) = (1 : Int32) from rfl, own_b16, if_neg (by decide), show (4 : Int32) + (1 : Int32) = (5 : Int32) from rfl, own_r5, Option.bind_some, ← hv1, show (1 : Int32) + (-1 : Int32) = (0 : Int32) from rfl, own_b16, if_neg (by decide), show (4 : Int32) + (0 : Int32) = (4 : Int32) from rfl, own_r4, Option.bind_some, ← hv0, show (0 : Int32) + (-1 : Int32) = (-1 : Int32) from rfl, own_b16, if_pos (by decide)]
theorem own_q4 (j0 j2 : Int64) (i4 i5 : Int32) (hv : (i5 &&& (2147483647 : Int32)) % (5 : Int32) = (4 : Int32)) : ∃ D', f0 [] j0 j2 i4 i5 = some ((1 : Int32), D') := by
  apply own_ex
  rw [f0, own_letU, List.length_nil, own_n, Option.bind_some, own_w0, Option.bind_some, own_w1, Option.bind_some, own_w2, Option.bind_some, own_w3, Option.bind_some, own_w4, Option.bind_some, own_w5, Option.bind_some, own_w6, Option.bind_some, own_w7, Option.bind_some, own_w8, Option.bind_some, own_w9, Option.bind_some, own_w10, Option.bind_some, own_w11, Option.bind_some, own_letU, hv, own_w4, Option.bind_some, show (4 : Int32) + (1 : Int32) = (5 : Int32) from rfl, own_w5, Option.bind_some, show (4 : Int32) + (2 : Int32) = (6 : Int32) from rfl, own_w6, Option.bind_some, show (4 : Int32) + (3 : Int32) = (7 : Int32) from rfl, own_w7, Option.bind_some, show (4 : Int32) + (4 : Int32) = (8 : Int32) from rfl, own_w8, Option.bind_some, show (4 : Int32) + (5 : Int32) = (9 : Int32) from rfl, own_w9, Option.bind_some, show (4 : Int32) + (6 : Int32) = (10 : Int32) from rfl, own_w10, Option.bind_some, show (4 : Int32) + (7 : Int32) = (11 : Int32) from rfl, own_w11, Option.bind_some]
  obtain ⟨v, e, hvj⟩ := own_p4 (.int ((j2.toInt32).toInt8.toInt32).toInt8.toInt32) (.int ((((j2.toUInt64 >>> ((8 : Int32) &&& 0x3f).toInt64.toUInt64).toInt64).toInt32).toInt8.toInt32).toInt8.toInt32) (.int ((((j2.toUInt64 >>> ((16 : Int32) &&& 0x3f).toInt64.toUInt64).toInt64).toInt32).toInt8.toInt32).toInt8.toInt32) (.int ((((j2.toUInt64 >>> ((24 : Int32) &&& 0x3f).toInt64.toUInt64).toInt64).toInt32).toInt8.toInt32).toInt8.toInt32) j0 []
  unfold own_y at e
  rw [e, Option.bind_some, own_letU, own_letU]
  dsimp only
  rw [if_pos hvj]
  simp only [Option.map_some]
theorem law_ok (i0 i1 : Int64) (i2 i3 : Int32) : ∃ D', f0 [] i0 i1 i2 i3 = some ((1 : Int32), D') := by
  obtain ⟨a1, a2⟩ := own_modr i3 5 (by decide)
  obtain ⟨p, hp⟩ := own_fin _ 5 a1 a2
  match p, hp with
  | ⟨0, _⟩, hp => exact own_q0 i0 i1 i2 i3 hp
  | ⟨1, _⟩, hp => exact own_q1 i0 i1 i2 i3 hp
  | ⟨2, _⟩, hp => exact own_q2 i0 i1 i2 i3 hp
  | ⟨3, _⟩, hp => exact own_q3 i0 i1 i2 i3 hp
  | ⟨4, _⟩, hp => exact own_q4 i0 i1 i2 i3 hp
set_option maxRecDepth 65536 in
set_option maxHeartbeats 40000000 in
theorem comes_1 {Post : Tables → Env → Array Value → State → Outcome → State → Prop} (hpost : ∀ tb e args s v u, (limb_1_1.after args s (.returned v) u = true ∧ limb_1_2.after args s (.returned v) u = true ∧ True) → FrameEnd s (.returned v) u (Jvm.fieldLocs frame_1_writes args s ++ Jvm.arrayLocs frame_1_arrays args s ++ Jvm.staticLocs frame_1_statics s) 16 128 → Post tb e args s (.returned v) u) :
    ArmFor flags0 classFile x code maxLocals ret World_1 tables_1 room_1 Calls_1 rest_1 Pre_1 Post := by
  intro l hfl _ _ p e ha hc hk s m args below hf hA hF happ hP
  obtain ⟨hcalls, hrest, hpre⟩ := hP
  obtain ⟨-, -, -, hnamed, -, -, -, hat⟩ := (Spec.applies_iff hf).mp happ
  obtain ⟨hg, hn⟩ := and_e (Cond.before_iff.mp (show (Jvm.Cond.and given_1 narrow_1).before args s = true from hpre))
  obtain ⟨g0, hg⟩ := and_e hg
  obtain ⟨gg0, hg⟩ := and_e hg
  obtain ⟨gg1, hg⟩ := and_e hg
  obtain ⟨gg2, hg⟩ := and_e hg
  have gg3 := hg
  obtain ⟨w0, w1, w2, w3, rfl⟩ : ∃ w0 w1 w2 w3 : Value, args = #[w0, w1, w2, w3] := by
    have hs : args.size = 4 := by simpa [Cond.value, given_1] using g0
    obtain ⟨L⟩ := args
    match L, hs with
    | [w0, w1, w2, w3], _ => exact ⟨w0, w1, w2, w3, rfl⟩
  have hw := fun d (hd : d ∈ tables_1) => atoms_spec (ws := Jvm.Cond.code x code maxLocals ret :: tables_1) hat d (List.mem_cons_of_mem _ hd)
  obtain ⟨i0, ei0⟩ := isL_v gg0
  obtain rfl : w0 = (.long i0) := Option.some.inj ei0
  obtain ⟨i1, ei1⟩ := isL_v gg1
  obtain rfl : w1 = (.long i1) := Option.some.inj ei1
  obtain ⟨i2, ei2⟩ := is_v gg2
  obtain rfl : w2 = (.int i2) := Option.some.inj ei2
  obtain ⟨i3, ei3⟩ := is_v gg3
  obtain rfl : w3 = (.int i3) := Option.some.inj ei3
  obtain ⟨D', hlaw⟩ := law_ok i0 i1 i2 i3
  obtain ⟨n, o, h1, h2, h3, _, L, rfl, ⟨rfl, N, -⟩, hq⟩ := ct0 (l := l) hw hlaw s.heap tables_1 (own_ow0 s.heap) p e ha hc hk s m _ below hf ((Spec.applies_iff_loose hf).mp happ).1 ⟨rfl, State.Warmed39.refl s, rfl⟩ trivial
  exact ⟨n, _, h1, h2, h3, hpost _ _ _ _ _ _ ⟨Cond.after_iff.mpr rfl, Cond.after_iff.mpr (eq_i res_at (Term.int_eval (1)) rfl), trivial⟩ ⟨hq.1, hq.2.1, (hq.2.2.sift fun y hy => Or.inr (N y hy)).mono (by decide) (by decide)⟩⟩
theorem main_1_1 : Claimed_1_1 := comes_1 fun _ _ _ _ _ _ h hF => ⟨h.1, hF⟩
theorem main_1_2 : Claimed_1_2 := comes_1 fun _ _ _ _ _ _ h hF => ⟨h.2.1, hF⟩
end Jvm.Pilot.@@N@@
namespace Jvm.Pilot.@@N@@
open Jvm Jvm.ClassFile Sem Op Lib Jvm.Free Jvm.Stand Jvm.Pilot.@@N@@.Jvm.D
/-! MADE BY PROGRAM (witnessworld.py) out of the Statement's table words and the real class files: 10 classes; the members and pool entries that the words name. The judged class is class 1, her method 1. -/
namespace start1
open Jvm.ClassFile
def u (s : String) : CpInfo := .utf8 (stringToUtf16 s)
/-- a pool by its gaps: so many unusable entries, then the entry; so many at the end -/
def gap : Nat → List CpInfo → List CpInfo
  | 0, r => r
  | n + 1, r => .unusable :: gap n r
def poolList (es : List (Nat × CpInfo)) (last : Nat) : List CpInfo := es.foldr (fun e r => gap e.1 (e.2 :: r)) (gap last [])
def pool (es : List (Nat × CpInfo)) (last : Nat) : Array CpInfo := ⟨poolList es last⟩
def fileOf (pool : Array CpInfo) (this : Nat) (attrs : Array Attribute := #[]) (ms : Array MethodInfo := #[]) (fl : Nat := 33) (sup : Nat := 0) (ifs : Array Nat := #[]) (fds : Array FieldInfo := #[]) : ClassFile where
  minorVersion := 0
  majorVersion := 65
  constantPool := pool
  accessFlags := fl
  thisClass := this
  superClass := sup
  interfaces := ifs
  fields := fds
  methods := ms
  attributes := attrs
def plain (name : String) (sup : Option ClassId) : Class where
  name := name
  kind := .ordinary
  loader := none
  accessFlags := 33
  super := sup
  interfaces := #[]
  cf := none
  fields := #[]
  methods := #[]
  instanceTypes := #[]
  staticTypes := #[]
  resolved := #[]
  callSites := []
  init := .initialized
  statics := none
  mirror := none

def pool0 : Array CpInfo := pool [(5, u "<init>"), (0, u "()V"), (1, .class_ 10), (1, u "java/lang/Object")] 113

def k0m0 : Method := { name := "<init>", desc := "()V", sig := { parameters := [], returnType := none }, accessFlags := 1, code := none }
/-- java/lang/Object -/
def k0 : Class := { plain "java/lang/Object" none with
  accessFlags := 33
  interfaces := #[]
  cf := some (fileOf pool0 8 #[] #[{ accessFlags := 1, nameIndex := 5, descriptorIndex := 6, attributes := #[] }] 33 0 #[] #[])
  fields := #[]
  methods := #[k0m0]
  instanceTypes := #[]
  staticTypes := #[]
  resolved := Array.replicate 124 none
  statics := none }

def pool1 : Array CpInfo := pool [(2, .class_ 4), (1, u "java/lang/Object"), (0, u "<init>"), (0, u "()V"), (0, .integer 2147483647), (0, .methodref 9 10), (0, .class_ 11), (0, .nameAndType 12 13), (0, u "com/example/whorl/whorl/hpke/Field25519"), (0, u "littleEndian64"), (0, u "([BI)J"), (0, .class_ 15), (0, u "com/example/whorl/whorl/hpke/Field25519LittleEndian64PinLaw"), (2, u "law"), (0, u "(JJII)Z")] 5

def k1m0 : Method := { name := "<init>", desc := "()V", sig := { parameters := [], returnType := none }, accessFlags := 1, code := none }
def k1c1 : Code := { maxStack := 5, maxLocals := 8, code := code, exceptionTable := #[], attributes := #[] }
def k1m1 : Method := { name := "law", desc := "(JJII)Z", sig := { parameters := [.long, .long, .int, .int], returnType := some .boolean }, accessFlags := 9, code := some k1c1 }
/-- com/example/whorl/whorl/hpke/Field25519LittleEndian64PinLaw -/
def k1 : Class := { plain "com/example/whorl/whorl/hpke/Field25519LittleEndian64PinLaw" (some 0) with
  accessFlags := 49
  interfaces := #[]
  cf := some (fileOf pool1 14 #[] #[{ accessFlags := 1, nameIndex := 5, descriptorIndex := 6, attributes := #[] }, { accessFlags := 9, nameIndex := 18, descriptorIndex := 19, attributes := #[] }] 49 2 #[] #[])
  fields := #[]
  methods := #[k1m0, k1m1]
  instanceTypes := #[]
  staticTypes := #[]
  resolved := Array.replicate 25 none
  statics := none }

def pool2 : Array CpInfo := pool [(2, .class_ 4), (1, u "java/lang/Object"), (3, .class_ 10), (1, u "com/example/whorl/whorl/hpke/PrimeField"), (0, u "modulus"), (0, u "Ljava/math/BigInteger;"), (2, u "limbs"), (0, u "I"), (8, u "length"), (2, u "littleEndian"), (0, u "Z"), (9, u "inverseExponent"), (0, u "[Z"), (6, u "leadingOnes")] 89

/-- com/example/whorl/whorl/hpke/PrimeField -/
def k2 : Class := { plain "com/example/whorl/whorl/hpke/PrimeField" (some 0) with
  accessFlags := 1056
  interfaces := #[]
  cf := some (fileOf pool2 8 #[] #[] 1056 2 #[] #[{ accessFlags := 18, nameIndex := 11, descriptorIndex := 12, attributes := #[] }, { accessFlags := 18, nameIndex := 15, descriptorIndex := 16, attributes := #[] }, { accessFlags := 18, nameIndex := 25, descriptorIndex := 16, attributes := #[] }, { accessFlags := 18, nameIndex := 28, descriptorIndex := 29, attributes := #[] }, { accessFlags := 18, nameIndex := 39, descriptorIndex := 40, attributes := #[] }, { accessFlags := 18, nameIndex := 47, descriptorIndex := 16, attributes := #[] }])
  fields := #[{ name := "modulus", type := (.object "java/math/BigInteger"), accessFlags := 18, slot := 0, constantValue := 0 }, { name := "limbs", type := .int, accessFlags := 18, slot := 1, constantValue := 0 }, { name := "length", type := .int, accessFlags := 18, slot := 2, constantValue := 0 }, { name := "littleEndian", type := .boolean, accessFlags := 18, slot := 3, constantValue := 0 }, { name := "inverseExponent", type := (.array .boolean), accessFlags := 18, slot := 4, constantValue := 0 }, { name := "leadingOnes", type := .int, accessFlags := 18, slot := 5, constantValue := 0 }]
  methods := #[]
  instanceTypes := #[(.object "java/math/BigInteger"), .int, .int, .boolean, (.array .boolean), .int]
  staticTypes := #[]
  resolved := Array.replicate 137 none
  statics := none }

def pool3 : Array CpInfo := pool [(22, .class_ 24), (1, u "com/example/whorl/whorl/hpke/PrimeField"), (0, u "<init>"), (8, .class_ 36), (1, u "com/example/whorl/whorl/hpke/Field25519"), (18, u "littleEndian64"), (0, u "([BI)J"), (14, u "()V"), (2, u "FIELD"), (0, u "Lcom/example/whorl/whorl/hpke/Field25519;"), (0, u "MASK"), (0, u "J")] 20

def k3m0 : Method := { name := "<init>", desc := "()V", sig := { parameters := [], returnType := none }, accessFlags := 2, code := none }
def k3c1 : Code := { maxStack := 5, maxLocals := 5, code := prog_37_method_12_code, exceptionTable := #[], attributes := #[] }
def k3m1 : Method := { name := "littleEndian64", desc := "([BI)J", sig := { parameters := [(.array .byte), .int], returnType := some .long }, accessFlags := 8, code := some k3c1 }
/-- com/example/whorl/whorl/hpke/Field25519 -/
def k3 : Class := { plain "com/example/whorl/whorl/hpke/Field25519" (some 2) with
  accessFlags := 48
  interfaces := #[]
  cf := some (fileOf pool3 34 #[] #[{ accessFlags := 2, nameIndex := 25, descriptorIndex := 71, attributes := #[] }, { accessFlags := 8, nameIndex := 55, descriptorIndex := 56, attributes := #[] }] 48 22 #[] #[{ accessFlags := 24, nameIndex := 74, descriptorIndex := 75, attributes := #[] }, { accessFlags := 26, nameIndex := 76, descriptorIndex := 77, attributes := #[] }])
  fields := #[{ name := "FIELD", type := (.object "com/example/whorl/whorl/hpke/Field25519"), accessFlags := 24, slot := 0, constantValue := 0 }, { name := "MASK", type := .long, accessFlags := 26, slot := 1, constantValue := 0 }]
  methods := #[k3m0, k3m1]
  instanceTypes := #[(.object "java/math/BigInteger"), .int, .int, .boolean, (.array .boolean), .int]
  staticTypes := #[(.object "com/example/whorl/whorl/hpke/Field25519"), .long]
  resolved := Array.replicate 98 none
  statics := none }

def pool4 : Array CpInfo := pool [(1, u "java/lang/Cloneable"), (0, .class_ 1), (0, u "java/lang/Object"), (0, .class_ 3)] 3

/-- java/lang/Cloneable -/
def k4 : Class := { plain "java/lang/Cloneable" (some 0) with
  accessFlags := 1537
  interfaces := #[]
  cf := some (fileOf pool4 2 #[] #[] 1537 4 #[] #[])
  fields := #[]
  methods := #[]
  instanceTypes := #[]
  staticTypes := #[]
  resolved := Array.replicate 8 none
  statics := none }

def pool5 : Array CpInfo := pool [(1, u "java/io/Serializable"), (0, .class_ 1), (0, u "java/lang/Object"), (0, .class_ 3)] 3

/-- java/io/Serializable -/
def k5 : Class := { plain "java/io/Serializable" (some 0) with
  accessFlags := 1537
  interfaces := #[]
  cf := some (fileOf pool5 2 #[] #[] 1537 4 #[] #[])
  fields := #[]
  methods := #[]
  instanceTypes := #[]
  staticTypes := #[]
  resolved := Array.replicate 8 none
  statics := none }

/-- the primitive byte -/
def k6 : Class := { plain "byte" none with kind := .primitive 'B', accessFlags := 0x411 }
/-- [B -/
def k7 : Class := { plain "[B" (some 0) with kind := .array 6 .byte, interfaces := #[4, 5], accessFlags := 1041 }

/-- the primitive int -/
def k8 : Class := { plain "int" none with kind := .primitive 'I', accessFlags := 0x411 }
/-- [I -/
def k9 : Class := { plain "[I" (some 0) with kind := .array 8 .int, interfaces := #[4, 5], accessFlags := 1041 }

def heap : Heap := #[]
def classes : Array Class := #[k0, k1, k2, k3, k4, k5, k6, k7, k8, k9]
def interned : List (Array UInt16 × Addr) := []
def slotsUsed : Nat := 0
def theMethod : MethodId := ⟨1, 1⟩
def args0 : Array Value := #[.long 5, .long 7, .int 3, .int 4]
def aboutOver (below : List Frame) : State where
  vm := { classes := classes, interned := interned.toArray }
  heap := heap
  slotsUsed := slotsUsed
  threads := #[{ frames := .invoking theMethod args0 :: below }]
def below0 : List Frame := [.native { method := ⟨0, 0⟩, args := #[] }]
def about1 : State := aboutOver below0
def p0 : Program := .bare "" "" ""
def e0 : Env := launch0.env 0 0 0
theorem w_frames : about1.frames = Frame.invoking theMethod args0 :: below0 := rfl
set_option maxRecDepth 65536 in
theorem w_args : argsFit about1.vm theMethod args0 = true := by decide +kernel
set_option maxRecDepth 65536 in
theorem w_heap : heapFits about1 = true := by decide +kernel
set_option maxRecDepth 65536 in
theorem w_runnable : about1.curStatus? = some .runnable := by decide +kernel
set_option maxRecDepth 65536 in
theorem w_alone : about1.alone = true := by decide +kernel
set_option maxRecDepth 65536 in
theorem w_named : about1.methodNamed? x = some theMethod := by decide +kernel
set_option maxRecDepth 65536 in
theorem w_hears : about1.hears theMethod below0 = true := by decide +kernel
set_option maxRecDepth 65536 in
theorem w_ripe : about1.ripe theMethod args0 below0 = true := by decide +kernel
theorem w_running : about1.status = .running := rfl
set_option maxRecDepth 65536 in
theorem w_room : about1.hasRoom e0.platform room_1 = true :=
  launch0.hasRoom_least _ room_1 (by decide +kernel) (by decide +kernel) (by decide +kernel) (by decide +kernel) (by decide +kernel) (by decide +kernel)
theorem allAtoms_all (ts : List Jvm.Cond) (a : Array Jvm.Value) (st : Jvm.State) : (allAtoms ts).before a st = ts.all (fun c => c.before a st) := by
  induction ts with
  | nil => rfl
  | cons c t ih =>
    show (Jvm.Cond.and c (allAtoms t)).before a st = _
    rw [Jvm.Cond.before_and, ih, List.all_cons]
def words1 : List Jvm.Cond := Jvm.Cond.code x code maxLocals ret :: tables_1
/-- a 'code' word, met by the world's own term for the bytes: nothing is compared byte by byte -/
theorem code_word {y : MethodName} {bytes : ByteArray} {mx : Nat} {rt : Option FieldType} {a : Array Value} {s : State} {m : MethodId} {meth : Method} {c : Code} (h1 : s.methodNamed? y = some m) (h2 : s.vm.method? m = some meth) (h3 : meth.code = some c) (h4 : c.code = bytes)
    (h5 : (c.maxLocals == mx && c.exceptionTable.isEmpty && decide (c.maxStack ≤ mostOperands) && decide (meth.sig.returnType = rt) && !meth.locks && decide (parseMethodDescriptor y.desc = some meth.sig)) = true) : (Jvm.Cond.code y bytes mx rt).before a s = true := by
  simp only [Bool.and_eq_true, beq_iff_eq, Bool.not_eq_true', decide_eq_true_eq] at h5
  obtain ⟨⟨⟨⟨⟨g1, g2⟩, g3⟩, g4⟩, g5⟩, g6⟩ := h5
  simp [Cond.before, Cond.holds, Cond.value, h1, h2, h3, h4, g1, g2, g3, g4, g5, g6]
def isCode : Jvm.Cond → Bool
  | .code _ _ _ _ => true
  | _ => false
theorem all_split {L : List Jvm.Cond} {P : Jvm.Cond → Bool} (h1 : L.all (fun c => isCode c || P c) = true) (h2 : ∀ c ∈ L.filter isCode, P c = true) : L.all P = true := by
  refine List.all_eq_true.mpr fun c hc => ?_
  have h := List.all_eq_true.mp h1 c hc
  rcases Bool.eq_false_or_eq_true (isCode c) with hi | hi
  · exact h2 c (List.mem_filter.mpr ⟨hc, hi⟩)
  · simpa [hi] using h
set_option maxRecDepth 65536 in
theorem w_c0 : (Jvm.Cond.code x code maxLocals ret).before args0 about1 = true := code_word (m := ⟨1, 1⟩) (meth := k1m1) (c := k1c1) (by decide +kernel) rfl rfl rfl (by decide +kernel)
set_option maxRecDepth 65536 in
theorem w_c1 : (Jvm.Cond.code ({ cls := "com/example/whorl/whorl/hpke/Field25519", name := "littleEndian64", desc := "([BI)J" } : Jvm.MethodName) prog_37_method_12_code (5 : Nat) (Option.some Jvm.ClassFile.FieldType.long)).before args0 about1 = true := code_word (m := ⟨3, 1⟩) (meth := k3m1) (c := k3c1) (by decide +kernel) rfl rfl rfl (by decide +kernel)
def codes1 : List Jvm.Cond := [Jvm.Cond.code x code maxLocals ret, Jvm.Cond.code ({ cls := "com/example/whorl/whorl/hpke/Field25519", name := "littleEndian64", desc := "([BI)J" } : Jvm.MethodName) prog_37_method_12_code (5 : Nat) (Option.some Jvm.ClassFile.FieldType.long)]
set_option maxRecDepth 65536 in
theorem codes_eq : words1.filter isCode = codes1 := rfl
theorem w_codes : ∀ c ∈ words1.filter isCode, c.before args0 about1 = true := by
  rw [codes_eq]
  intro c hc
  simp only [codes1, List.mem_cons, List.not_mem_nil, or_false] at hc
  rcases hc with rfl | rfl
  · exact w_c0
  · exact w_c1
set_option maxRecDepth 65536 in
theorem w_t1 : words1.all (fun c => isCode c || c.before args0 about1) = true := by decide +kernel
theorem w_tables : (allAtoms (Jvm.Cond.code x code maxLocals ret :: tables_1)).before args0 about1 = true := by
  rw [allAtoms_all]
  show words1.all (fun c => c.before args0 about1) = true
  refine all_split ?_ w_codes
  rw [w_t1]
set_option maxRecDepth 65536 in
theorem w_case : (Jvm.Cond.and given_1 narrow_1).before args0 about1 = true := by decide +kernel
theorem w_applies : (headSpec (Jvm.Cond.code x code maxLocals ret :: tables_1) room_1).applies x e0.platform about1 = true :=
  (Spec.applies_iff w_frames).mpr ⟨w_running, w_runnable, w_alone, w_named, w_hears, w_ripe, w_room, w_tables⟩
theorem atStart : AtStart classFile x code maxLocals ret World_1 tables_1 room_1 Calls_1 rest_1 Pre_1 launch0 p0 e0 about1 theMethod args0 below0 :=
  ⟨lists_1, trivial, launch0.admits_env _ _ _, launch0.least_env, fairChoices_fair.cas, fairChoices_fair.clock, w_frames, w_args, w_heap, w_applies, trivial, trivial, w_case⟩
end start1
theorem witness_1 : WitnessClaimed_1 := ⟨start1.p0, start1.e0, start1.about1, start1.theMethod, start1.args0, start1.below0, start1.atStart⟩
end Jvm.Pilot.@@N@@
