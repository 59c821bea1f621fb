import JvmDerived
import JvmDerived.Pilot.@@N@@Statement
import JvmDerived.Pilot.@@N@@Code
set_option linter.unusedVariables false
set_option linter.unusedSimpArgs false

namespace Jvm.Pilot.@@N@@
open Jvm Jvm.ClassFile Sem Op Lib Jvm.Free Jvm.Stand Jvm.LawKit Jvm.RoadKit Bundle Jvm.Pilot.@@N@@.Jvm.D
/-! 1. the goal of a walk, and its steps -/
section OwnGoal
variable {p : Program} {l : Launch} {e : Env} {R : Room} {s : State} {m : MethodId} {args : Array Value} {below : List Frame} {meth : Method} {c : Code} {T : State} {locs : List Loc} {cells slots : Nat}
/-- from the state S the body returns, P holds of what it leaves, and the frame is kept -/
def Gl (p : Program) (e : Env) (below : List Frame) (s : State) (kc ks : Nat) (P : Option Value → Heap → List Loc → Prop) (S : State) : Prop :=
  ∃ t o, Steps p.tables e below S t ∧ t.status = .running ∧ Ended t below o ∧ ∃ v L, o = .returned v ∧ P v t.heap L ∧ FrameEnd s o t L kc ks
variable {kc ks : Nat} {P : Option Value → Heap → List Loc → Prop}
theorem Gl.on {A B : State} (h : ∀ t, Steps p.tables e below B t → Steps p.tables e below A t) (k : Gl p e below s kc ks P B) : Gl p e below s kc ks P A := by
  obtain ⟨t, o, h1, h2⟩ := k
  exact ⟨t, o, h t h1, h2⟩
theorem own_to {tb : Tables} {A B t : State} (q : A = B) (k : Steps tb e below B t) : Steps tb e below A t := q ▸ k
theorem Gl.out (X : Stand p l e R s m args below meth c T locs cells slots) (hx : p.tables.exec = Jvm.exec) (hlk : meth.locks = false) {pc : Nat} {Ls : Array Slot} {w : Value} {t : FieldType} {i : Instr} {rest : List Value} (hret : meth.sig.returnType = some t) (hn : narrow t w = w)
    (hi : (i = .ireturn ∧ (t = .int ∨ t = .boolean ∨ t = .byte ∨ t = .char ∨ t = .short) ∧ ∃ z, w = .int z) ∨ (i = .lreturn ∧ t = .long ∧ ∃ z, w = .long z) ∨ (i = .dreturn ∧ t = .double ∧ ∃ z, w = .double z) ∨ (i = .freturn ∧ t = .float ∧ ∃ z, w = .float z) ∨ (i = .areturn ∧ t.isReference = true ∧ w.isRef = true))
    (hd : decode c.code pc = .ok (i, 1)) (hP : P (some w) T.heap locs) (hc : cells ≤ kc) (hs : slots ≤ ks) : Gl p e below s kc ks P (T.setTop (mkF m pc Ls (w :: rest))) := by
  obtain ⟨fs, hr, hrun, hended, hW, hsame⟩ := X.leave (v := some w) (fun h => by rw [hret] at h; cases h) hlk
  exact ⟨_, _, retOut X hx hret hn hi hd hr, hrun, hended, _, _, rfl, hP, ⟨_, rfl⟩, hW, hsame.mono hc hs⟩
theorem Gl.outI (X : Stand p l e R s m args below meth c T locs cells slots) (hx : p.tables.exec = Jvm.exec) (hlk : meth.locks = false) {pc : Nat} {Ls : Array Slot} {z : Int32} {rest : List Value} (hret : meth.sig.returnType = some .int)
    (hd : decode c.code pc = .ok (.ireturn, 1)) (hP : P (some (.int z)) T.heap locs) (hc : cells ≤ kc) (hs : slots ≤ ks) : Gl p e below s kc ks P (T.setTop (mkF m pc Ls (.int z :: rest))) :=
  Gl.out X hx hlk hret rfl (Or.inl ⟨rfl, Or.inl rfl, z, rfl⟩) hd hP hc hs
theorem Gl.outJ (X : Stand p l e R s m args below meth c T locs cells slots) (hx : p.tables.exec = Jvm.exec) (hlk : meth.locks = false) {pc : Nat} {Ls : Array Slot} {z : Int64} {rest : List Value} (hret : meth.sig.returnType = some .long)
    (hd : decode c.code pc = .ok (.lreturn, 1)) (hP : P (some (.long z)) T.heap locs) (hc : cells ≤ kc) (hs : slots ≤ ks) : Gl p e below s kc ks P (T.setTop (mkF m pc Ls (.long z :: rest))) :=
  Gl.out X hx hlk hret rfl (Or.inr (Or.inl ⟨rfl, rfl, z, rfl⟩)) hd hP hc hs
theorem Gl.outR (X : Stand p l e R s m args below meth c T locs cells slots) (hx : p.tables.exec = Jvm.exec) (hlk : meth.locks = false) {pc : Nat} {Ls : Array Slot} {a : Addr} {t : FieldType} {rest : List Value} (hret : meth.sig.returnType = some t) (ht : t.isReference = true)
    (hd : decode c.code pc = .ok (.areturn, 1)) (hP : P (some (.ref a)) T.heap locs) (hc : cells ≤ kc) (hs : slots ≤ ks) : Gl p e below s kc ks P (T.setTop (mkF m pc Ls (.ref a :: rest))) :=
  Gl.out X hx hlk hret (by cases t <;> first | rfl | cases ht) (Or.inr (Or.inr (Or.inr (Or.inr ⟨rfl, ht, rfl⟩)))) hd hP hc hs
theorem Gl.outN (X : Stand p l e R s m args below meth c T locs cells slots) (hx : p.tables.exec = Jvm.exec) (hlk : meth.locks = false) {pc : Nat} {Ls : Array Slot} {z : Int32} {t : FieldType} {rest : List Value} (hret : meth.sig.returnType = some t) (ht : t = .boolean ∨ t = .byte ∨ t = .char ∨ t = .short)
    (hd : decode c.code pc = .ok (.ireturn, 1)) (hP : P (some (.int (nar t z))) T.heap locs) (hc : cells ≤ kc) (hs : slots ≤ ks) : Gl p e below s kc ks P (T.setTop (mkF m pc Ls (.int z :: rest))) := by
  obtain ⟨fs, hr, hrun, hended, hW, hsame⟩ := X.leave (v := some (.int (nar t z))) (fun h => by rw [hret] at h; cases h) hlk
  exact ⟨_, _, retN X hx hret ht hd hr, hrun, hended, _, _, rfl, hP, ⟨_, rfl⟩, hW, hsame.mono hc hs⟩
theorem Gl.outV (X : Stand p l e R s m args below meth c T locs cells slots) (hx : p.tables.exec = Jvm.exec) (hlk : meth.locks = false) {pc : Nat} {Ls : Array Slot} (hret : meth.sig.returnType = none)
    (hd : decode c.code pc = .ok (.return_, 1)) (hP : P none T.heap locs) (hc : cells ≤ kc) (hs : slots ≤ ks) : Gl p e below s kc ks P (T.setTop (mkF m pc Ls [])) := by
  obtain ⟨fs, hr, hrun, hended, hW, hsame⟩ := X.leave (v := none) (fun _ => rfl) hlk
  exact ⟨_, _, X.returnOut hx hret hd hr, hrun, hended, _, _, rfl, hP, ⟨_, rfl⟩, hW, hsame.mono hc hs⟩
end OwnGoal
/-- two slots: both empty, or a long -/
def Two (a b : Slot) : Prop := (a = .unset ∧ b = .unset) ∨ ∃ z : Int64, a = .val (.long z) ∧ b = .second
theorem own_inj {α β : Type} {a b : α} {c d : β} (h : some (a, c) = some (b, d)) : a = b ∧ c = d := by cases h; exact ⟨rfl, rfl⟩
theorem own_inj1 {α : Type} {a b : α} (h : some a = some b) : a = b := by cases h; rfl
def own_let {α β : Type} (a : α) (f : α → β) : β := f a
theorem own_letE {α β : Type} {a : α} {f : α → β} {b : β} (h : own_let a f = b) : ∃ x, a = x ∧ f x = b := ⟨a, rfl, h⟩
theorem own_bind {α β : Type} {o : Option α} {f : α → Option β} {b : β} (h : o.bind f = some b) : ∃ x, o = some x ∧ f x = some b := by
  cases o with
  | none => cases h
  | some x => exact ⟨x, rfl, h⟩
/-! 2. what the law has made: a list of objects, each with its kind and its values; a reference is a place in that list -/
abbrev Hp := List (Nat × List Value)
abbrev Kt := Nat → FieldType × List (String × String)
def sh (n0 : Nat) : Value → Value
  | .ref k => .ref (n0 + k)
  | v => v
def gV (D : Hp) (a t i : Nat) : Option Value := (D[a]?).bind fun ob => if ob.1 = t then ob.2[i]? else none
def asI : Value → Option Int32
  | .int x => some x
  | _ => none
def asJ : Value → Option Int64
  | .long x => some x
  | _ => none
def asR : Value → Option Nat
  | .ref x => some x
  | _ => none
def gI (D : Hp) (a t i : Nat) : Option Int32 := (gV D a t i).bind asI
def gJ (D : Hp) (a t i : Nat) : Option Int64 := (gV D a t i).bind asJ
def gR (D : Hp) (a t i : Nat) : Option Nat := (gV D a t i).bind asR
def ck (D : Hp) (a t : Nat) : Option Nat := (D[a]?).bind fun ob => if ob.1 = t then some t else none
def pV (D : Hp) (a t i : Nat) (v : Value) : Option Hp := (D[a]?).bind fun ob => if ob.1 = t then (if i < ob.2.length then some (D.set a (t, ob.2.set i v)) else none) else none
def rV (D : Hp) (a t : Nat) (j : Int32) : Option Value := (D[a]?).bind fun ob => if ob.1 = t then (if j < 0 then none else ob.2[j.toNatClampNeg]?) else none
def rI (D : Hp) (a t : Nat) (j : Int32) : Option Int32 := (rV D a t j).bind asI
def rJ (D : Hp) (a t : Nat) (j : Int32) : Option Int64 := (rV D a t j).bind asJ
def wV (D : Hp) (a t : Nat) (j : Int32) (v : Value) : Option Hp := (D[a]?).bind fun ob => if ob.1 = t then (if j < 0 then none else if j.toNatClampNeg < ob.2.length then some (D.set a (t, ob.2.set j.toNatClampNeg v)) else none) else none
def lA (D : Hp) (a t : Nat) : Option Int32 := (D[a]?).bind fun ob => if ob.1 = t then some ob.2.length.toInt32 else none
def nA (D : Hp) (t : Nat) (n : Int32) (cap : Nat) (z : Value) : Option Hp := if n < 0 then none else if n.toNatClampNeg ≤ cap then some (D ++ [(t, List.replicate n.toNatClampNeg z)]) else none
def cA' (D : Hp) (a t cap : Nat) : Option Hp := (D[a]?).bind fun ob => if ob.1 = t then (if ob.2.length ≤ cap then some (D ++ [(t, ob.2)]) else none) else none
def Ob1 (K : Kt) (Z : State) (h : Heap) (n0 a t : Nat) (vs : List Value) : Prop :=
  (∀ ty, (K t).1 = .array ty → Exa Z h a ("[" ++ ty.toString) ∧ ∃ c : Cell, Arr Z h a c ty ∧ c.slots = (vs.map (sh n0)).toArray ∧ vs.length < 2 ^ 31 ∧ ∀ v ∈ vs, fits ty v = true) ∧
  (∀ C, (K t).1 = .object C → Exa Z h a C ∧ ∀ (i : Nat) (f d : String), (K t).2[i]? = some (f, d) → ∃ v : Value, vs[i]? = some v ∧ Fld Z h a C f d (sh n0 v))
def Ow (K : Kt) (Z : State) (h : Heap) (n0 : Nat) (D : Hp) : Prop := h.size = n0 + D.length ∧ ∀ (k t : Nat) (vs : List Value), D[k]? = some (t, vs) → Ob1 K Z h n0 (n0 + k) t vs
def Lay (K : Kt) (Z : State) (a0 : Array Value) : Prop := ∀ t C, (K t).1 = .object C → (∀ q ∈ (K t).2, Laid Z a0 C C q.1 q.2 ∧ ∃ ty, parseFieldDescriptor q.2 = some ty) ∧ ((K t).2.map Prod.fst).Nodup
section OwnHeap
variable {K : Kt} {Z : State} {h h' : Heap} {n0 : Nat} {D D' : Hp} {a t i : Nat} {v : Value} {j : Int32} {C f d : String} {ty : FieldType}
theorem gV_e (hg : gV D a t i = some v) : ∃ vs, D[a]? = some (t, vs) ∧ vs[i]? = some v := by
  obtain ⟨⟨t', vs⟩, h1, h2⟩ := own_bind hg
  by_cases q : t' = t
  · subst q; rw [if_pos rfl] at h2; exact ⟨vs, h1, h2⟩
  · rw [if_neg q] at h2; cases h2
theorem gI_e {x : Int32} (hg : gI D a t i = some x) : gV D a t i = some (.int x) := by
  obtain ⟨w, h1, h2⟩ := own_bind hg
  cases w <;> cases h2; exact h1
theorem gJ_e {x : Int64} (hg : gJ D a t i = some x) : gV D a t i = some (.long x) := by
  obtain ⟨w, h1, h2⟩ := own_bind hg
  cases w <;> cases h2; exact h1
theorem gR_e {x : Nat} (hg : gR D a t i = some x) : gV D a t i = some (.ref x) := by
  obtain ⟨w, h1, h2⟩ := own_bind hg
  cases w <;> cases h2; exact h1
theorem ck_e {q : Nat} (hg : ck D a t = some q) : ∃ vs, D[a]? = some (t, vs) := by
  obtain ⟨⟨t', vs⟩, h1, h2⟩ := own_bind hg
  by_cases q : t' = t
  · subst q; exact ⟨vs, h1⟩
  · rw [if_neg q] at h2; cases h2
theorem rV_e (hg : rV D a t j = some v) : ∃ vs, D[a]? = some (t, vs) ∧ ¬ j < 0 ∧ vs[j.toNatClampNeg]? = some v := by
  obtain ⟨⟨t', vs⟩, h1, h2⟩ := own_bind hg
  by_cases q : t' = t
  · subst q; rw [if_pos rfl] at h2
    by_cases r : j < 0
    · rw [if_pos r] at h2; cases h2
    · rw [if_neg r] at h2; exact ⟨vs, h1, r, h2⟩
  · rw [if_neg q] at h2; cases h2
theorem rI_e {x : Int32} (hg : rI D a t j = some x) : rV D a t j = some (.int x) := by
  obtain ⟨w, h1, h2⟩ := own_bind hg
  cases w <;> cases h2; exact h1
theorem rJ_e {x : Int64} (hg : rJ D a t j = some x) : rV D a t j = some (.long x) := by
  obtain ⟨w, h1, h2⟩ := own_bind hg
  cases w <;> cases h2; exact h1
theorem wV_e (hg : wV D a t j v = some D') : ∃ vs, D[a]? = some (t, vs) ∧ ¬ j < 0 ∧ j.toNatClampNeg < vs.length ∧ D' = D.set a (t, vs.set j.toNatClampNeg v) := by
  obtain ⟨⟨t', vs⟩, h1, h2⟩ := own_bind hg
  by_cases q : t' = t
  · subst q; rw [if_pos rfl] at h2
    by_cases r : j < 0
    · rw [if_pos r] at h2; cases h2
    · rw [if_neg r] at h2
      by_cases u : j.toNatClampNeg < vs.length
      · rw [if_pos u] at h2; cases h2; exact ⟨vs, h1, r, u, rfl⟩
      · rw [if_neg u] at h2; cases h2
  · rw [if_neg q] at h2; cases h2
theorem pV_e (hg : pV D a t i v = some D') : ∃ vs, D[a]? = some (t, vs) ∧ i < vs.length ∧ D' = D.set a (t, vs.set i v) := by
  obtain ⟨⟨t', vs⟩, h1, h2⟩ := own_bind hg
  by_cases q : t' = t
  · subst q; rw [if_pos rfl] at h2
    by_cases u : i < vs.length
    · rw [if_pos u] at h2; cases h2; exact ⟨vs, h1, u, rfl⟩
    · rw [if_neg u] at h2; cases h2
  · rw [if_neg q] at h2; cases h2
theorem cA_e {cap : Nat} (hg : cA' D a t cap = some D') : ∃ vs, D[a]? = some (t, vs) ∧ vs.length ≤ cap ∧ D' = D ++ [(t, vs)] := by
  obtain ⟨⟨t', vs⟩, h1, h2⟩ := own_bind hg
  by_cases q : t' = t
  · subst q; rw [if_pos rfl] at h2
    by_cases u : vs.length ≤ cap
    · rw [if_pos u] at h2; cases h2; exact ⟨vs, h1, u, rfl⟩
    · rw [if_neg u] at h2; cases h2
  · rw [if_neg q] at h2; cases h2
theorem lA_e {x : Int32} (hg : lA D a t = some x) : ∃ vs, D[a]? = some (t, vs) ∧ x = vs.length.toInt32 := by
  obtain ⟨⟨t', vs⟩, h1, h2⟩ := own_bind hg
  by_cases q : t' = t
  · subst q; rw [if_pos rfl] at h2; cases h2; exact ⟨vs, h1, rfl⟩
  · rw [if_neg q] at h2; cases h2
theorem Ow.fld (O : Ow K Z h n0 D) (hg : gV D a t i = some v) (hK : (K t).1 = .object C) (hf : (K t).2[i]? = some (f, d)) : Fld Z h (n0 + a) C f d (sh n0 v) := by
  obtain ⟨vs, h1, h2⟩ := gV_e hg
  obtain ⟨w, h3, h4⟩ := ((O.2 a t vs h1).2 C hK).2 i f d hf
  cases h2.symm.trans h3; exact h4
theorem Ow.fld0 (O : Ow K Z h n0 D) (hg : pV D a t i v = some D') (hK : (K t).1 = .object C) (hf : (K t).2[i]? = some (f, d)) : ∃ w, Fld Z h (n0 + a) C f d w := by
  obtain ⟨vs, h1, h2, -⟩ := pV_e hg
  obtain ⟨w, h3, h4⟩ := ((O.2 a t vs h1).2 C hK).2 i f d hf
  exact ⟨_, h4⟩
theorem Ow.exa (O : Ow K Z h n0 D) {vs : List Value} (hg : D[a]? = some (t, vs)) (hK : (K t).1 = .object C) : Exa Z h (n0 + a) C := ((O.2 a t vs hg).2 C hK).1
theorem Ow.exaC (O : Ow K Z h n0 D) {q : Nat} (hg : ck D a t = some q) (hK : (K t).1 = .object C) : Exa Z h (n0 + a) C := by
  obtain ⟨vs, h1⟩ := ck_e hg; exact O.exa h1 hK
theorem Ow.exaP (O : Ow K Z h n0 D) (hg : pV D a t i v = some D') (hK : (K t).1 = .object C) : Exa Z h (n0 + a) C := by
  obtain ⟨vs, h1, -⟩ := pV_e hg; exact O.exa h1 hK
theorem sh_len (vs : List Value) : ((vs.map (sh n0)).toArray).size = vs.length := by simp
/-- the array at a, its cell, that the place j lies in it and what it holds -/
theorem Ow.arrR (O : Ow K Z h n0 D) (hg : rV D a t j = some v) (hK : (K t).1 = .array ty) : ∃ c : Cell, Arr Z h (n0 + a) c ty ∧ ¬ (j < 0 ∨ c.slots.size ≤ j.toNatClampNeg) ∧ c.slots[j.toNatClampNeg]? = some (sh n0 v) := by
  obtain ⟨vs, h1, h2, h3⟩ := rV_e hg
  obtain ⟨-, c, A, hs, -, -⟩ := (O.2 a t vs h1).1 ty hK
  have hlt := (List.getElem?_eq_some_iff.mp h3).1
  refine ⟨c, A, ?_, ?_⟩
  · rw [hs, sh_len]; intro q; rcases q with q | q
    · exact h2 q
    · omega
  · rw [hs]; simp [h3]
theorem Ow.arrL (O : Ow K Z h n0 D) {x : Int32} (hg : lA D a t = some x) (hK : (K t).1 = .array ty) : ∃ c : Cell, Arr Z h (n0 + a) c ty ∧ c.slots.size.toInt32 = x := by
  obtain ⟨vs, h1, h2⟩ := lA_e hg
  obtain ⟨-, c, A, hs, -, -⟩ := (O.2 a t vs h1).1 ty hK
  exact ⟨c, A, by rw [hs, sh_len, h2]⟩
theorem Ow.arrW (O : Ow K Z h n0 D) (hg : wV D a t j v = some D') (hK : (K t).1 = .array ty) : ∃ c : Cell, Arr Z h (n0 + a) c ty ∧ ¬ (j < 0 ∨ c.slots.size ≤ j.toNatClampNeg) := by
  obtain ⟨vs, h1, h2, h3, -⟩ := wV_e hg
  obtain ⟨-, c, A, hs, -, -⟩ := (O.2 a t vs h1).1 ty hK
  refine ⟨c, A, ?_⟩
  rw [hs, sh_len]; intro q; rcases q with q | q
  · exact h2 q
  · omega
theorem own_get_set {k : Nat} {ob ob' : Nat × List Value} (hk : (D.set a ob)[k]? = some ob') : (k = a ∧ ob' = ob ∧ a < D.length) ∨ (k ≠ a ∧ D[k]? = some ob') := by
  by_cases q : k = a
  · subst q
    rw [List.getElem?_set] at hk
    simp only [if_true] at hk
    by_cases r : k < D.length
    · rw [if_pos r] at hk; cases hk; exact Or.inl ⟨rfl, rfl, r⟩
    · rw [if_neg r] at hk; cases hk
  · rw [List.getElem?_set_ne (Ne.symm q)] at hk; exact Or.inr ⟨q, hk⟩
theorem Ob1.other {x y k : Nat} {vs : List Value} {w : Value} {sl : Nat} (B : Ob1 K Z h n0 x k vs) (W : Wr h h' y sl w) (hne : x ≠ y) : Ob1 K Z h' n0 x k vs := by
  refine ⟨fun ty hK => ?_, fun C hK => ?_⟩
  · obtain ⟨E, c, A, r⟩ := B.1 ty hK
    exact ⟨E.wr W, c, A.other W hne, r⟩
  · obtain ⟨E, F⟩ := B.2 C hK
    refine ⟨E.wr W, fun i f d hi => ?_⟩
    obtain ⟨v, h1, h2⟩ := F i f d hi
    exact ⟨v, h1, h2.other W (Or.inl hne)⟩
theorem Ow.st (O : Ow K Z h n0 D) (hg : wV D a t j v = some D') (hK : (K t).1 = .array ty) (hfit : fits ty v = true) (W : Wr h h' (n0 + a) j.toNatClampNeg (sh n0 v)) : Ow K Z h' n0 D' := by
  obtain ⟨vs, h1, h2, h3, rfl⟩ := wV_e hg
  refine ⟨by rw [W.size, O.1, List.length_set], fun k t' vs' hk => ?_⟩
  rcases own_get_set hk with ⟨rfl, e, -⟩ | ⟨hne, hk'⟩
  · cases e
    refine ⟨fun ty' hK' => ?_, fun C hK' => ?_⟩
    · cases hK.symm.trans hK'
      obtain ⟨E, c, A, hs, hl, hf⟩ := (O.2 _ _ vs h1).1 _ hK
      refine ⟨E.wr W, _, A.same W, ?_, by rw [List.length_set]; exact hl, fun w hw => ?_⟩
      · simp only [Cell.setSlot, hs]
        rw [List.map_set]
        simp
      · rcases List.mem_or_eq_of_mem_set hw with q | q
        · exact hf w q
        · rw [q]; exact hfit
    · rw [hK] at hK'; cases hK'
  · exact (O.2 k t' vs' hk').other W (by omega)
theorem Ow.put {a0 : Array Value} (O : Ow K Z h n0 D) (hL : Lay K Z a0) (hg : pV D a t i v = some D') (hK : (K t).1 = .object C) (hf : (K t).2[i]? = some (f, d)) (W : Wr h h' (n0 + a) (Jvm.RoadKit.slotOf Z C f d) (sh n0 v)) : Ow K Z h' n0 D' := by
  obtain ⟨vs, h1, h3, rfl⟩ := pV_e hg
  refine ⟨by rw [W.size, O.1, List.length_set], fun k t' vs' hk => ?_⟩
  rcases own_get_set hk with ⟨rfl, e, -⟩ | ⟨hne, hk'⟩
  · cases e
    refine ⟨fun ty' hK' => (by rw [hK] at hK'; cases hK'), fun C' hK' => ?_⟩
    cases hK.symm.trans hK'
    obtain ⟨E, F⟩ := (O.2 _ _ vs h1).2 _ hK
    refine ⟨E.wr W, fun i' f' d' hi' => ?_⟩
    obtain ⟨w, g1, g2⟩ := F i' f' d' hi'
    by_cases q : i' = i
    · subst q
      cases hf.symm.trans hi'
      exact ⟨v, by rw [List.getElem?_set]; simp [h3], g2.same W⟩
    · refine ⟨w, by rw [List.getElem?_set_ne (Ne.symm q)]; exact g1, g2.other W (Or.inr ?_)⟩
      obtain ⟨hl, hn⟩ := hL t C hK
      obtain ⟨l1, ty1, p1⟩ := hl _ (List.mem_of_getElem? hf)
      obtain ⟨l2, ty2, p2⟩ := hl _ (List.mem_of_getElem? hi')
      refine slot_ne l2 l1 (fun e => q ?_) p2 p1
      have m1 : ((K t).2.map Prod.fst)[i]? = some f := by rw [List.getElem?_map, hf]; rfl
      have m2 : ((K t).2.map Prod.fst)[i']? = some f' := by rw [List.getElem?_map, hi']; rfl
      obtain ⟨b1, c1⟩ := List.getElem?_eq_some_iff.mp m1
      obtain ⟨b2, c2⟩ := List.getElem?_eq_some_iff.mp m2
      exact (List.getElem_inj hn).mp (by rw [c1, c2]; exact e)
  · exact (O.2 k t' vs' hk').other W (by omega)
theorem Ob1.ext {x k : Nat} {vs : List Value} (B : Ob1 K Z h n0 x k vs) (E : Ext h h') : Ob1 K Z h' n0 x k vs := by
  refine ⟨fun ty hK => ?_, fun C hK => ?_⟩
  · obtain ⟨F, c, A, r⟩ := B.1 ty hK
    exact ⟨F.ext E, c, A.ext E, r⟩
  · obtain ⟨X, F⟩ := B.2 C hK
    refine ⟨X.ext E, fun i f d hi => ?_⟩
    obtain ⟨v, h1, h2⟩ := F i f d hi
    exact ⟨v, h1, h2.ext E⟩
theorem Ow.push {vs : List Value} (O : Ow K Z h n0 D) (E : Ext h h') (hsz : h'.size = h.size + 1) (B : Ob1 K Z h' n0 (n0 + D.length) t vs) : Ow K Z h' n0 (D ++ [(t, vs)]) := by
  refine ⟨by rw [hsz, O.1, List.length_append]; rfl, fun k t' vs' hk => ?_⟩
  by_cases q : k < D.length
  · rw [List.getElem?_append_left q] at hk; exact (O.2 k t' vs' hk).ext E
  · rw [List.getElem?_append_right (Nat.le_of_not_lt q)] at hk
    have e : k - D.length = 0 := by
      have := (List.getElem?_eq_some_iff.mp hk).1
      simp only [List.length_singleton] at this; omega
    rw [e] at hk
    have hk2 : (t, vs) = (t', vs') := Option.some.inj hk
    cases hk2
    have : k = D.length := by omega
    rw [this]; exact B
theorem sh_default (ty : FieldType) : sh n0 (defaultValue ty) = defaultValue ty := by cases ty <;> rfl
theorem own_ow0 (h : Heap) : Ow K Z h h.size [] := ⟨by simp, fun k t vs hk => by simp at hk⟩
end OwnHeap
/-! 3. the laws of the library, over that list -/
section OwnLaws
variable {p : Program} {l : Launch} {e : Env} {R : Room} {s : State} {m : MethodId} {args : Array Value} {below : List Frame} {meth : Method} {c : Code} {T : State} {locs : List Loc} {cells slots : Nat} {Z : State} {a0 : Array Value} {h : Heap} {K : Kt} {n0 : Nat} {D D' : Hp} {a t : Nat}
theorem ldW (X : Stand p l e R s m args below meth c T locs cells slots) (hx : p.tables.exec = Jvm.exec) (hZ : Z.Warmed39 s.vm) (eT : T.heap = h) (O : Ow K Z h n0 D) {j : Int32} {x : Int32} (hg : rI D a t j = some x) (hK : (K t).1 = .array .int)
    {g : JFrame} (hgm : g.method = m) {rest : List Value} (hs : g.stack = .int j :: .ref (n0 + a) :: rest) (hd : decode c.code g.pc = .ok (.iaload, 1)) (target : State)
    (hr : Steps p.tables e below (T.setTop { g with pc := g.pc + 1, stack := .int x :: rest }) target) : Steps p.tables e below (T.setTop g) target := by
  obtain ⟨cl, A, hin, hat⟩ := O.arrR (rI_e hg) hK
  exact X.iaload hx (v := .int x) (by rw [eT]; exact A.1) (State.isArrayOf_alike hZ.alike A.2.1) A.2.2 hin hat hgm hs hd target hr
theorem ldB (X : Stand p l e R s m args below meth c T locs cells slots) (hx : p.tables.exec = Jvm.exec) (hZ : Z.Warmed39 s.vm) (eT : T.heap = h) (O : Ow K Z h n0 D) {j : Int32} {x : Int32} (hg : rI D a t j = some x) (hK : (K t).1 = .array .byte)
    {g : JFrame} (hgm : g.method = m) {rest : List Value} (hs : g.stack = .int j :: .ref (n0 + a) :: rest) (hd : decode c.code g.pc = .ok (.baload, 1)) (target : State)
    (hr : Steps p.tables e below (T.setTop { g with pc := g.pc + 1, stack := .int x :: rest }) target) : Steps p.tables e below (T.setTop g) target := by
  obtain ⟨cl, A, hin, hat⟩ := O.arrR (rI_e hg) hK
  exact X.baloadBytes hx (v := .int x) (by rw [eT]; exact A.1) (State.isArrayOf_alike hZ.alike A.2.1) A.2.2 hin hat hgm hs hd target hr
theorem ldJ (X : Stand p l e R s m args below meth c T locs cells slots) (hx : p.tables.exec = Jvm.exec) (hZ : Z.Warmed39 s.vm) (eT : T.heap = h) (O : Ow K Z h n0 D) {j : Int32} {x : Int64} (hg : rJ D a t j = some x) (hK : (K t).1 = .array .long)
    {g : JFrame} (hgm : g.method = m) {rest : List Value} (hs : g.stack = .int j :: .ref (n0 + a) :: rest) (hd : decode c.code g.pc = .ok (.laload, 1)) (target : State)
    (hr : Steps p.tables e below (T.setTop { g with pc := g.pc + 1, stack := .long x :: rest }) target) : Steps p.tables e below (T.setTop g) target := by
  obtain ⟨cl, A, hin, hat⟩ := O.arrR (rJ_e hg) hK
  exact X.laload hx (v := .long x) (by rw [eT]; exact A.1) (State.isArrayOf_alike hZ.alike A.2.1) A.2.2 hin hat hgm hs hd target hr
theorem lenW' (X : Stand p l e R s m args below meth c T locs cells slots) (hx : p.tables.exec = Jvm.exec) (hZ : Z.Warmed39 s.vm) (eT : T.heap = h) (O : Ow K Z h n0 D) {x : Int32} (hg : lA D a t = some x) {ty : FieldType} (hK : (K t).1 = .array ty)
    {g : JFrame} (hgm : g.method = m) {rest : List Value} (hs : g.stack = .ref (n0 + a) :: rest) (hd : decode c.code g.pc = .ok (.arraylength, 1)) (target : State)
    (hr : Steps p.tables e below (T.setTop { g with pc := g.pc + 1, stack := .int x :: rest }) target) : Steps p.tables e below (T.setTop g) target := by
  obtain ⟨cl, A, hl⟩ := O.arrL hg hK
  subst hl
  exact X.arraylength hx (by rw [eT]; exact A.1) (State.isArrayOf_alike hZ.alike A.2.1) hgm hs hd target hr
theorem stIW (X : Stand p l e R s m args below meth c T locs cells slots) (hx : p.tables.exec = Jvm.exec) (hZ : Z.Warmed39 s.vm) (eT : T.heap = h) (O : Ow K Z h n0 D) (N : Fr n0 locs) {j x : Int32} (hg : wV D a t j (.int x) = some D') (hK : (K t).1 = .array .int)
    {g : JFrame} (hgm : g.method = m) {rest : List Value} (hs : g.stack = .int x :: .int j :: .ref (n0 + a) :: rest) (hd : decode c.code g.pc = .ok (.iastore, 1)) :
    ∃ T' h' L, Stand p l e R s m args below meth c T' L cells slots ∧ T'.heap = h' ∧ Ow K Z h' n0 D' ∧ Fr n0 L ∧ ∀ target, Steps p.tables e below (T'.setTop { g with pc := g.pc + 1, stack := rest }) target → Steps p.tables e below (T.setTop g) target := by
  obtain ⟨cl, A, hin⟩ := O.arrW hg hK
  obtain ⟨T', h', X', e', W, st⟩ := stI X hx hZ eT A hin hgm hs hd
  exact ⟨T', h', _, X', e', O.st hg hK rfl W, Fr.snoc X' N (Nat.le_add_right _ _), st⟩
theorem stBW (X : Stand p l e R s m args below meth c T locs cells slots) (hx : p.tables.exec = Jvm.exec) (hZ : Z.Warmed39 s.vm) (eT : T.heap = h) (O : Ow K Z h n0 D) (N : Fr n0 locs) {j x : Int32} (hg : wV D a t j (.int x.toInt8.toInt32) = some D') (hK : (K t).1 = .array .byte)
    {g : JFrame} (hgm : g.method = m) {rest : List Value} (hs : g.stack = .int x :: .int j :: .ref (n0 + a) :: rest) (hd : decode c.code g.pc = .ok (.bastore, 1)) :
    ∃ T' h' L, Stand p l e R s m args below meth c T' L cells slots ∧ T'.heap = h' ∧ Ow K Z h' n0 D' ∧ Fr n0 L ∧ ∀ target, Steps p.tables e below (T'.setTop { g with pc := g.pc + 1, stack := rest }) target → Steps p.tables e below (T.setTop g) target := by
  obtain ⟨cl, A, hin⟩ := O.arrW hg hK
  obtain ⟨T', h', X', e', W, st⟩ := stB X hx hZ eT A hin hgm hs hd
  exact ⟨T', h', _, X', e', O.st hg hK (fits_nar_byte _) W, Fr.snoc X' N (Nat.le_add_right _ _), st⟩
theorem stJW (X : Stand p l e R s m args below meth c T locs cells slots) (hx : p.tables.exec = Jvm.exec) (hZ : Z.Warmed39 s.vm) (eT : T.heap = h) (O : Ow K Z h n0 D) (N : Fr n0 locs) {j : Int32} {x : Int64} (hg : wV D a t j (.long x) = some D') (hK : (K t).1 = .array .long)
    {g : JFrame} (hgm : g.method = m) {rest : List Value} (hs : g.stack = .long x :: .int j :: .ref (n0 + a) :: rest) (hd : decode c.code g.pc = .ok (.lastore, 1)) :
    ∃ T' h' L, Stand p l e R s m args below meth c T' L cells slots ∧ T'.heap = h' ∧ Ow K Z h' n0 D' ∧ Fr n0 L ∧ ∀ target, Steps p.tables e below (T'.setTop { g with pc := g.pc + 1, stack := rest }) target → Steps p.tables e below (T.setTop g) target := by
  obtain ⟨cl, A, hin⟩ := O.arrW hg hK
  obtain ⟨T', h', X', e', W, st⟩ := stJ X hx hZ eT A hin hgm hs hd
  exact ⟨T', h', _, X', e', O.st hg hK rfl W, Fr.snoc X' N (Nat.le_add_right _ _), st⟩
theorem putW (X : Stand p l e R s m args below meth c T locs cells slots) (hx : p.tables.exec = Jvm.exec) (hZ : Z.Warmed39 s.vm) {own C f d : String} {index kk i : Nat} {ty : FieldType} (hown : s.vm.findClass own = some m.cls) (w : (Cond.fieldLink own index C f d).before a0 Z = true) (hL : Lay K Z a0)
    (eT : T.heap = h) (O : Ow K Z h n0 D) (N : Fr n0 locs) {v : Value} (hg : pV D a t i v = some D') (hK : (K t).1 = .object C) (hf : (K t).2[i]? = some (f, d)) (L : (Cond.lays C C f d).before a0 Z = true ∨ ((Cond.laysFinal C C f d).before a0 Z = true ∧ own = C ∧ meth.name = "<init>")) (wi : (Cond.instantiable C kk).before a0 Z = true)
    (hty : parseFieldDescriptor d = some ty) (hn : narrow ty (sh n0 v) = sh n0 v) (hfit : fits ty (sh n0 v) = true) {g : JFrame} (hgm : g.method = m) {rest : List Value} (hs : g.stack = sh n0 v :: .ref (n0 + a) :: rest) (hd : decode c.code g.pc = .ok (.putfield index, 3)) :
    ∃ T' h' L, Stand p l e R s m args below meth c T' L cells slots ∧ T'.heap = h' ∧ Ow K Z h' n0 D' ∧ Fr n0 L ∧ ∀ target, Steps p.tables e below (T'.setTop { g with pc := g.pc + 3, stack := rest }) target → Steps p.tables e below (T.setTop g) target := by
  obtain ⟨old, F⟩ := O.fld0 hg hK hf
  obtain ⟨T', h', X', e', W, st⟩ := putF X hx hZ hown (host := "") (Or.inl w) Via.refl eT F (O.exaP hg hK) L wi hty hn hfit hgm hs hd
  exact ⟨T', h', _, X', e', O.put hL hg hK hf W, Fr.snoc X' N (Nat.le_add_right _ _), st⟩
theorem newW (X : Stand p l e R s m args below meth c T locs cells slots) (hx : p.tables.exec = Jvm.exec) (hZ : Z.Warmed39 s.vm) {own C : String} {index n : Nat} (hown : s.vm.findClass own = some m.cls) (w : (Cond.classLink own index C).before a0 Z = true) (wi : (Cond.instantiable C n).before a0 Z = true) (wz : (Cond.initialized C).before a0 Z = true) (hL : Lay K Z a0) (eT : T.heap = h) (O : Ow K Z h n0 D)
    (hK : (K t).1 = .object C) {ds : List Value} (hds : ∀ q ∈ (K t).2.zipIdx, ∃ ty, parseFieldDescriptor q.1.2 = some ty ∧ ds[q.2]? = some (defaultValue ty)) {g : JFrame} (hg : g.method = m) (hd : decode c.code g.pc = .ok (.new index, 3)) (hc : cells + 1 ≤ R.cells) (hl : slots + n ≤ R.slots) :
    ∃ T' h', Stand p l e R s m args below meth c T' locs (cells + 1) (slots + n) ∧ T'.heap = h' ∧ Ow K Z h' n0 (D ++ [(t, ds)]) ∧ ∀ target, Steps p.tables e below (T'.setTop { g with pc := g.pc + 3, stack := .ref (n0 + D.length) :: g.stack }) target → Steps p.tables e below (T.setTop g) target := by
  obtain ⟨vm', cC, kC, h1, h2, h3, h4, X', st⟩ := X.newCold hx hown (mv hZ w) (mv hZ wi) (mv hZ wz) hg hd hc hl
  subst eT
  rw [hZ.alike.findClass] at h1
  obtain ⟨kZ, z1, -⟩ := Vm.findClass_spec h1
  obtain ⟨k', z2, z3⟩ := hZ.alike.2.2 _ _ z1
  cases h2.symm.trans z2
  have ei : kC.instanceTypes = kZ.instanceTypes := by rw [z3]
  have hN : (T.heap.push { cls := cC, slots := kC.instanceTypes.map defaultValue, vm := .none })[T.heap.size]? = some { cls := cC, slots := kC.instanceTypes.map defaultValue, vm := .none } := by simp
  have E : Ext T.heap (T.heap.push { cls := cC, slots := kC.instanceTypes.map defaultValue, vm := .none }) := ⟨by simp, fun a c h => by
    rw [Array.getElem?_push_lt (Array.getElem?_eq_some_iff.mp h).1]; exact (Array.getElem?_eq_getElem _).symm.trans h⟩
  have hsz := O.1
  refine ⟨_, _, X', rfl, O.push E (by simp) ⟨fun ty hK' => (by rw [hK] at hK'; cases hK'), fun C' hK' => ?_⟩, by rw [← hsz]; exact st⟩
  cases hK.symm.trans hK'
  rw [← hsz]
  refine ⟨⟨_, kZ, hN, h1, z1, rfl, fun _ => by simp [ei]⟩, fun i f d hi => ?_⟩
  obtain ⟨ty, t1, t2⟩ := hds ((f, d), i) (List.mem_zipIdx_iff_getElem?.mpr hi)
  refine ⟨_, t2, ?_⟩
  rw [sh_default]
  obtain ⟨c1, k1, cf, kf, i', f', a1, a2, a3, a4, a5, a6, -⟩ := ((hL t C hK).1 _ (List.mem_of_getElem? hi)).1.spec
  cases h1.symm.trans a1
  cases z1.symm.trans a2
  exact ⟨_, cf, kf, i', f', hN, a3, a4, by simp, rfl, a5, by simp [ei, a6, (State.fieldFound?_type a3 t1).2]⟩
theorem newAW (X : Stand p l e R s m args below meth c T locs cells slots) (hx : p.tables.exec = Jvm.exec) (hZ : Z.Warmed39 s.vm) {aty : ArrayType} (w : (Cond.arrayClass (newarray.typeOf aty)).before a0 Z = true) (eT : T.heap = h) (O : Ow K Z h n0 D) (hK : (K t).1 = .array (newarray.typeOf aty))
    {n : Int32} {cap : Nat} {z : Value} (hz : z = defaultValue (newarray.typeOf aty)) (hn : nA D t n cap z = some D') {g : JFrame} (hg : g.method = m) (hd : decode c.code g.pc = .ok (.newarray aty, 2)) {rest : List Value} (hs : g.stack = .int n :: rest)
    (hb : cap * 8 ≤ 536870912) (hc : cells + 1 ≤ R.cells) (hl : slots + cap ≤ R.slots) :
    ∃ T' h', Stand p l e R s m args below meth c T' locs (cells + 1) (slots + cap) ∧ T'.heap = h' ∧ Ow K Z h' n0 D' ∧ ∀ target, Steps p.tables e below (T'.setTop { g with pc := g.pc + 2, stack := .ref (n0 + D.length) :: rest }) target → Steps p.tables e below (T.setTop g) target := by
  have hcb : componentBytes (newarray.typeOf aty) ≤ 8 := by cases aty <;> decide
  by_cases q : n < 0
  · simp only [nA, if_pos q] at hn; cases hn
  simp only [nA, if_neg q] at hn
  by_cases hcap : n.toNatClampNeg ≤ cap
  · rw [if_pos hcap] at hn
    cases hn
    obtain ⟨cA, kA, comp, h1, h2, h3, X', st⟩ := X.newarrayPrim hx (mvA hZ w) hg hd hs q (Nat.le_trans (Nat.mul_le_mul hcap hcb) hb) hc (by omega)
    subst eT
    rw [hZ.alike.findClass] at h1
    obtain ⟨kZ, z1, -⟩ := Vm.findClass_spec h1
    obtain ⟨k', z2, z3⟩ := hZ.alike.2.2 _ _ z1
    cases h2.symm.trans z2
    have hsz := O.1
    refine ⟨_, _, X'.more (Nat.le_refl _) (by omega), rfl, O.push (h' := T.heap.push _) ⟨by simp, fun a c h => ?_⟩ (by simp) ⟨fun ty hK' => ?_, fun C hK' => by rw [hK] at hK'; cases hK'⟩, by rw [← hsz]; exact st⟩
    · rw [Array.getElem?_push_lt (Array.getElem?_eq_some_iff.mp h).1]; exact (Array.getElem?_eq_getElem _).symm.trans h
    · cases hK.symm.trans hK'
      rw [← hsz]
      have ek : kZ.kind = .array comp (newarray.typeOf aty) := by rw [← h3, z3]
      refine ⟨⟨_, kZ, Array.getElem?_push_size, h1, z1, rfl, fun q => by rw [ek] at q; cases q⟩, _, ⟨Array.getElem?_push_size, ⟨by simp, kZ, z1, comp, ek⟩, by simp⟩, ?_, ?_, fun v hv => ?_⟩
      · rw [hz, List.map_replicate, sh_default]; simp
      · rw [List.length_replicate]; exact (back32 q).2
      · rw [(List.mem_replicate.mp hv).2, hz]; cases aty <;> rfl
  · rw [if_neg hcap] at hn; cases hn
/-! 4. contracts and calls -/
def Qw (K : Kt) (Z : State) (n0 : Nat) (r : Option Value) (D' : Hp) : Option Value → Heap → List Loc → Prop := fun v h L => v = r ∧ Fr n0 L ∧ Ow K Z h n0 D'
def Ct (K : Kt) (l : Launch) (Z : State) (y : MethodName) (cw : Jvm.Cond) (rm : Room) (n0 : Nat) (D : Hp) (as' : Array Value) (r : Option Value) (D' : Hp) : Prop :=
  ∀ (h0 : Heap) (ws : List Jvm.Cond), Ow K Z h0 n0 D → MetFree l y (head1 (cw :: ws) rm) (fun a U => a = as' ∧ Z.Warmed39 U.vm ∧ U.heap = h0) (fun _ _ _ _ _ => True) (fun _ U o U' => ∃ v L, o = .returned v ∧ Qw K Z n0 r D' v U'.heap L ∧ FrameEnd U o U' L rm.cells rm.slots)
/-- what stands still through a body -/
def Cx (p : Program) (s : State) (m : MethodId) (meth : Method) (c : Code) (Z : State) (bytes : ByteArray) (maxL : Nat) (ret : Option FieldType) (own nm : String) : Prop :=
  p.tables.exec = Jvm.exec ∧ Z.Warmed39 s.vm ∧ c.code = bytes ∧ c.maxLocals = maxL ∧ s.vm.findClass own = some m.cls ∧ meth.name = nm ∧ meth.sig.returnType = ret ∧ meth.locks = false
variable {y : MethodName} {bytes : ByteArray} {maxL : Nat} {ret : Option FieldType} {rm : Room} {r : Option Value}
theorem Ct.of {as' : Array Value} (hpl : plainFor y = true) (body : ∀ (p : Program) (e : Env) (s : State) (m : MethodId) (below : List Frame) (meth : Method) (c : Code) (s₁ : State) (h0 : Heap), Cx p s m meth c Z bytes maxL ret y.cls y.name → Stand p l e rm s m as' below meth c s₁ [] 0 0 → s₁.heap = h0 → Ow K Z h0 n0 D →
      Gl p e below s rm.cells rm.slots (Qw K Z n0 r D') (s₁.setTop (entryFrame m as' maxL))) : Ct K l Z y (.code y bytes maxL ret) rm n0 D as' r D' := by
  intro h0 ws O
  refine MetFree.of_bodySF hpl hisR ?_
  intro p e s m args below meth c s₁ Bd hml0 hP hK
  obtain ⟨rfl, hZ, hh⟩ := hP
  exact body p e s m below meth c s₁ h0 ⟨Bd.exec, hZ, Bd.bytes, hml0, findClass_of_methodNamed Bd.named, (name_of_methodNamed Bd.named Bd.method).1, Bd.returns, BodyLoose.notSynchronized Bd⟩ (Stand.of_body Bd) (by rw [← hh, Bd.state]; rfl) O
theorem Ct.ofH {as' : Array Value} {hs : List (Nat × Nat × Nat × Nat)} (hpl : plainFor y = true) (body : ∀ (p : Program) (e : Env) (s : State) (m : MethodId) (below : List Frame) (meth : Method) (c : Code) (s₁ : State) (h0 : Heap), Cx p s m meth c Z bytes maxL ret y.cls y.name → Stand p l e rm s m as' below meth c s₁ [] 0 0 → s₁.heap = h0 → Ow K Z h0 n0 D →
      Gl p e below s rm.cells rm.slots (Qw K Z n0 r D') (s₁.setTop (entryFrame m as' maxL))) : Ct K l Z y (.codeWith y bytes maxL ret hs) rm n0 D as' r D' := by
  intro h0 ws O
  refine MetFree.of_bodySF hpl hisWith ?_
  intro p e s m args below meth c s₁ Bd hml0 hP hK
  obtain ⟨rfl, hZ, hh⟩ := hP
  exact body p e s m below meth c s₁ h0 ⟨Bd.exec, hZ, Bd.bytes, hml0, findClass_of_methodNamed Bd.named, (name_of_methodNamed Bd.named Bd.method).1, Bd.returns, BodyLoose.notSynchronized Bd⟩ (Stand.of_body Bd) (by rw [← hh, Bd.state]; rfl) O
theorem callSW (X : Stand p l e R s m args below meth c T locs cells slots) (hx : p.tables.exec = Jvm.exec) (hZ : Z.Warmed39 s.vm) {own : String} {index : Nat} (hown : s.vm.findClass own = some m.cls) (w1 : (Cond.methodLink own index y).before a0 Z = true) (w2 : (Cond.static y).before a0 Z = true) (w3 : (Cond.initialized y.cls).before a0 Z = true) (w4 : (Cond.code y bytes maxL ret).before a0 Z = true)
    (hy : y.cls ≠ "java/lang/invoke/MethodHandle" ∧ y.cls ≠ "java/lang/invoke/VarHandle") (eT : T.heap = h) (O : Ow K Z h n0 D) (N : Fr n0 locs) {as' : List Value} (hM : Ct K l Z y (.code y bytes maxL ret) rm n0 D as'.toArray r D') {W kc ks : Nat} (hkc : rm.cells = kc) (hks : rm.slots = ks) (hf : rm.frames + 1 ≤ R.frames) (hl : W + (maxL + 11) + rm.locals ≤ R.locals)
    {g : JFrame} (hg : g.method = m) (hsize : g.locals.size = c.maxLocals) {rest : List Value} (hlen : ∀ sig, parseMethodDescriptor y.desc = some sig → as'.length = sig.parameters.length) (hs : g.stack = as'.reverse ++ rest) (hW : 2 * g.monitorRoom + (rest.map fun v => v.category).sum ≤ W) (hd : decode c.code g.pc = .ok (.invokestatic index, 3)) (hc : cells + kc ≤ R.cells) (hsl : slots + ks ≤ R.slots) :
    ∃ T' h' L, Stand p l e R s m args below meth c T' L (cells + kc) (slots + ks) ∧ T'.heap = h' ∧ Ow K Z h' n0 D' ∧ Fr n0 L ∧ ∀ target, Steps p.tables e below (T'.setTop { g with pc := g.pc + 3, stack := r.toList ++ rest }) target → Steps p.tables e below (T.setTop g) target := by
  subst hkc hks
  obtain ⟨_, _, ⟨T', L', k', n'⟩, -, X', ⟨Lc, hQ, hL, hk, hn⟩, st⟩ := Jvm.LawKit.callS X hx hown (mvT hZ w1) (mvT hZ w2) (mvT hZ w3) (mvT hZ w4) hy (backOf (W := W) (hM h [] O) hZ w4 w3 hf hl) hg hsize (argsL := as') hlen hs hW hd (fun _ _ => ⟨rfl, eT, hc, hsl⟩)
  dsimp only [Pt.U, Pt.locs, Pt.cells, Pt.slots] at X' hL hk hn st hQ
  subst hL hk hn
  obtain ⟨rfl, N', O'⟩ := hQ
  exact ⟨T', _, _, X', rfl, O', N.app N', st⟩
theorem callSHW (X : Stand p l e R s m args below meth c T locs cells slots) (hx : p.tables.exec = Jvm.exec) (hZ : Z.Warmed39 s.vm) {own : String} {index : Nat} {hs' : List (Nat × Nat × Nat × Nat)} (hown : s.vm.findClass own = some m.cls) (w1 : (Cond.methodLink own index y).before a0 Z = true) (w2 : (Cond.static y).before a0 Z = true) (w3 : (Cond.initialized y.cls).before a0 Z = true) (w4 : (Cond.codeWith y bytes maxL ret hs').before a0 Z = true)
    (hy : y.cls ≠ "java/lang/invoke/MethodHandle" ∧ y.cls ≠ "java/lang/invoke/VarHandle") (eT : T.heap = h) (O : Ow K Z h n0 D) (N : Fr n0 locs) {as' : List Value} (hM : Ct K l Z y (.codeWith y bytes maxL ret hs') rm n0 D as'.toArray r D') {W kc ks : Nat} (hkc : rm.cells = kc) (hks : rm.slots = ks) (hf : rm.frames + 1 ≤ R.frames) (hl : W + (maxL + 11) + rm.locals ≤ R.locals)
    {g : JFrame} (hg : g.method = m) (hsize : g.locals.size = c.maxLocals) {rest : List Value} (hlen : ∀ sig, parseMethodDescriptor y.desc = some sig → as'.length = sig.parameters.length) (hs : g.stack = as'.reverse ++ rest) (hW : 2 * g.monitorRoom + (rest.map fun v => v.category).sum ≤ W) (hd : decode c.code g.pc = .ok (.invokestatic index, 3)) (hc : cells + kc ≤ R.cells) (hsl : slots + ks ≤ R.slots) :
    ∃ T' h' L, Stand p l e R s m args below meth c T' L (cells + kc) (slots + ks) ∧ T'.heap = h' ∧ Ow K Z h' n0 D' ∧ Fr n0 L ∧ ∀ target, Steps p.tables e below (T'.setTop { g with pc := g.pc + 3, stack := r.toList ++ rest }) target → Steps p.tables e below (T.setTop g) target := by
  subst hkc hks
  obtain ⟨_, _, ⟨T', L', k', n'⟩, -, X', ⟨Lc, hQ, hL, hk, hn⟩, st⟩ := callSH X hx hown (mvT hZ w1) (mvT hZ w2) (mvT hZ w3) (mvT hZ w4) hy (backOfWith (W := W) (hM h [] O) hZ w4 w3 hf hl) hg hsize (argsL := as') hlen hs hW hd (fun _ _ => ⟨rfl, eT, hc, hsl⟩)
  dsimp only [Pt.U, Pt.locs, Pt.cells, Pt.slots] at X' hL hk hn st hQ
  subst hL hk hn
  obtain ⟨rfl, N', O'⟩ := hQ
  exact ⟨T', _, _, X', rfl, O', N.app N', st⟩
theorem callIW (X : Stand p l e R s m args below meth c T locs cells slots) (hx : p.tables.exec = Jvm.exec) (hZ : Z.Warmed39 s.vm) {own : String} {index : Nat} (hy1 : y.name = "<init>") (hown : s.vm.findClass own = some m.cls) (w1 : (Cond.methodLink own index y).before a0 Z = true) (w2 : (Cond.instanceMethod y).before a0 Z = true) (w3 : (Cond.initialized y.cls).before a0 Z = true) (w4 : (Cond.code y bytes maxL none).before a0 Z = true)
    (hy : y.cls ≠ "java/lang/invoke/MethodHandle" ∧ y.cls ≠ "java/lang/invoke/VarHandle") (eT : T.heap = h) (O : Ow K Z h n0 D) (N : Fr n0 locs) {as' : List Value} (hM : Ct K l Z y (.code y bytes maxL none) rm n0 D (.ref (n0 + a) :: as').toArray r D') {W kc ks : Nat} (hkc : rm.cells = kc) (hks : rm.slots = ks) (hf : rm.frames + 1 ≤ R.frames) (hl : W + (maxL + 11) + rm.locals ≤ R.locals)
    {g : JFrame} (hg : g.method = m) (hsize : g.locals.size = c.maxLocals) {rest : List Value} (hlen : ∀ sig, parseMethodDescriptor y.desc = some sig → as'.length = sig.parameters.length) (hs : g.stack = as'.reverse ++ .ref (n0 + a) :: rest) (hW : 2 * g.monitorRoom + (rest.map fun v => v.category).sum ≤ W) (hd : decode c.code g.pc = .ok (.invokespecial index, 3)) (hc : cells + kc ≤ R.cells) (hsl : slots + ks ≤ R.slots) :
    ∃ T' h' L, Stand p l e R s m args below meth c T' L (cells + kc) (slots + ks) ∧ T'.heap = h' ∧ Ow K Z h' n0 D' ∧ Fr n0 L ∧ ∀ target, Steps p.tables e below (T'.setTop { g with pc := g.pc + 3, stack := r.toList ++ rest }) target → Steps p.tables e below (T.setTop g) target := by
  subst hkc hks
  obtain ⟨_, _, ⟨T', L', k', n'⟩, -, X', ⟨Lc, hQ, hL, hk, hn⟩, st⟩ := Jvm.LawKit.callI X hx hown hy1 (mvT hZ w1) (mvT hZ w2) (mvT hZ w4) hy (backOf (W := W) (hM h [] O) hZ w4 w3 hf hl) hg hsize (argsL := as') hlen hs hW hd (fun _ _ => ⟨rfl, eT, hc, hsl⟩)
  dsimp only [Pt.U, Pt.locs, Pt.cells, Pt.slots] at X' hL hk hn st hQ
  subst hL hk hn
  obtain ⟨rfl, N', O'⟩ := hQ
  exact ⟨T', _, _, X', rfl, O', N.app N', st⟩
theorem callVW (X : Stand p l e R s m args below meth c T locs cells slots) (hx : p.tables.exec = Jvm.exec) (hZ : Z.Warmed39 s.vm) {own C : String} {index : Nat} (hown : s.vm.findClass own = some m.cls) (w1 : (Cond.methodLink own index y).before a0 Z = true) (w2 : (Cond.declares y).before a0 Z = true) (w5 : (Cond.selects C y y).before a0 Z = true) (w6 : (Cond.instanceMethod y).before a0 Z = true) (w3 : (Cond.initialized y.cls).before a0 Z = true) (w4 : (Cond.code y bytes maxL ret).before a0 Z = true)
    (hy : y.cls ≠ "java/lang/invoke/MethodHandle" ∧ y.cls ≠ "java/lang/invoke/VarHandle") (eT : T.heap = h) (O : Ow K Z h n0 D) (N : Fr n0 locs) {q : Nat} (hck : ck D a t = some q) (hK : (K t).1 = .object C) {as' : List Value} (hM : Ct K l Z y (.code y bytes maxL ret) rm n0 D (.ref (n0 + a) :: as').toArray r D') {W kc ks : Nat} (hkc : rm.cells = kc) (hks : rm.slots = ks) (hf : rm.frames + 1 ≤ R.frames) (hl : W + (maxL + 11) + rm.locals ≤ R.locals)
    {g : JFrame} (hg : g.method = m) (hsize : g.locals.size = c.maxLocals) {rest : List Value} (hlen : ∀ sig, parseMethodDescriptor y.desc = some sig → as'.length = sig.parameters.length) (hs : g.stack = as'.reverse ++ .ref (n0 + a) :: rest) (hW : 2 * g.monitorRoom + (rest.map fun v => v.category).sum ≤ W) (hd : decode c.code g.pc = .ok (.invokevirtual index, 3)) (hc : cells + kc ≤ R.cells) (hsl : slots + ks ≤ R.slots) :
    ∃ T' h' L, Stand p l e R s m args below meth c T' L (cells + kc) (slots + ks) ∧ T'.heap = h' ∧ Ow K Z h' n0 D' ∧ Fr n0 L ∧ ∀ target, Steps p.tables e below (T'.setTop { g with pc := g.pc + 3, stack := r.toList ++ rest }) target → Steps p.tables e below (T.setTop g) target := by
  subst hkc hks
  obtain ⟨cq, kq, qa, qb, qc⟩ := isOf hZ eT (O.exaC hck hK)
  obtain ⟨_, _, ⟨T', L', k', n'⟩, -, X', ⟨Lc, hQ, hL, hk, hn⟩, st⟩ := X.virtualBack hx (y := y) (z := y) hown (mvT hZ w1) (mvT hZ w2) (notFace_of_selects (args := #[]) (mvT hZ w5)) (mvT hZ w5) (mvT hZ w6) hy (backOf (W := W) (hM h [] O) hZ w4 w3 hf hl) qa qc hg hsize (Steps.refl _) (argsL := as') hlen hs hW hd (fun _ _ => ⟨rfl, eT, hc, hsl⟩)
  dsimp only [Pt.U, Pt.locs, Pt.cells, Pt.slots] at X' hL hk hn st hQ
  subst hL hk hn
  obtain ⟨rfl, N', O'⟩ := hQ
  exact ⟨T', _, _, X', rfl, O', N.app N', fun target k => st.trans k⟩
theorem callPW (X : Stand p l e R s m args below meth c T locs cells slots) (hx : p.tables.exec = Jvm.exec) (hZ : Z.Warmed39 s.vm) {own C : String} {index nk : Nat} (hown : s.vm.findClass own = some m.cls) (w1 : (Cond.methodLink own index y).before a0 Z = true) (w2 : (Cond.privateMethod y).before a0 Z = true) (w5 : (Cond.instantiable y.cls nk).before a0 Z = true) (w6 : (Cond.instanceMethod y).before a0 Z = true) (w3 : (Cond.initialized y.cls).before a0 Z = true) (w4 : (Cond.code y bytes maxL ret).before a0 Z = true)
    (hy : y.cls ≠ "java/lang/invoke/MethodHandle" ∧ y.cls ≠ "java/lang/invoke/VarHandle") (eT : T.heap = h) (O : Ow K Z h n0 D) (N : Fr n0 locs) {q : Nat} (hck : ck D a t = some q) (hK : (K t).1 = .object C) {as' : List Value} (hM : Ct K l Z y (.code y bytes maxL ret) rm n0 D (.ref (n0 + a) :: as').toArray r D') {W kc ks : Nat} (hkc : rm.cells = kc) (hks : rm.slots = ks) (hf : rm.frames + 1 ≤ R.frames) (hl : W + (maxL + 11) + rm.locals ≤ R.locals)
    {g : JFrame} (hg : g.method = m) (hsize : g.locals.size = c.maxLocals) {rest : List Value} (hlen : ∀ sig, parseMethodDescriptor y.desc = some sig → as'.length = sig.parameters.length) (hs : g.stack = as'.reverse ++ .ref (n0 + a) :: rest) (hW : 2 * g.monitorRoom + (rest.map fun v => v.category).sum ≤ W) (hd : decode c.code g.pc = .ok (.invokevirtual index, 3)) (hc : cells + kc ≤ R.cells) (hsl : slots + ks ≤ R.slots) :
    ∃ T' h' L, Stand p l e R s m args below meth c T' L (cells + kc) (slots + ks) ∧ T'.heap = h' ∧ Ow K Z h' n0 D' ∧ Fr n0 L ∧ ∀ target, Steps p.tables e below (T'.setTop { g with pc := g.pc + 3, stack := r.toList ++ rest }) target → Steps p.tables e below (T.setTop g) target := by
  subst hkc hks
  obtain ⟨cC, kC, i1, i2, -, i4, -, -⟩ := Cond.instantiable_spec (mvT (args := args) hZ w5)
  have hpr := Cond.privateMethod_at (mvP (args := args) hZ w2)
  have hsel := selects_self_of_private i1 i2 (Bool.or_eq_false_iff.mp i4).1 hpr (mvT (args := args) hZ w6) hy
  obtain ⟨cq, qa, qb⟩ := (O.exaC hck hK).cell
  obtain ⟨_, _, ⟨T', L', k', n'⟩, -, X', ⟨Lc, hQ, hL, hk, hn⟩, st⟩ := X.privateBack hx (y := y) hown (mvT hZ w1) (mvT hZ w6) hsel hpr (mvT hZ w4) hy (backOf (W := W) (hM h [] O) hZ w4 w3 hf hl) hg hsize (Steps.refl _) (by rw [eT]; exact qa) qb (argsL := as') hlen hs hW hd (fun _ _ => ⟨rfl, eT, hc, hsl⟩)
  dsimp only [Pt.U, Pt.locs, Pt.cells, Pt.slots] at X' hL hk hn st hQ
  subst hL hk hn
  obtain ⟨rfl, N', O'⟩ := hQ
  exact ⟨T', _, _, X', rfl, O', N.app N', fun target k => st.trans k⟩
theorem cloneW (X : Stand p l e R s m args below meth c T locs cells slots) (hx : p.tables.exec = Jvm.exec) (hZ : Z.Warmed39 s.vm) {own ad : String} {index : Nat} {ty : FieldType} (hown : s.vm.findClass own = some m.cls) (had : ad = "[" ++ ty.toString)
    (w1 : (Cond.methodLink own index ⟨ad, "clone", "()Ljava/lang/Object;"⟩).before a0 Z = true) (w2 : (Cond.sameMethod ad "java/lang/Object" "clone" "()Ljava/lang/Object;").before a0 Z = true) (w3 : (Cond.native ⟨"java/lang/Object", "clone", "()Ljava/lang/Object;"⟩).before a0 Z = true)
    (w4 : (Cond.instanceMethod ⟨"java/lang/Object", "clone", "()Ljava/lang/Object;"⟩).before a0 Z = true) (w5 : (Cond.selects ad ⟨ad, "clone", "()Ljava/lang/Object;"⟩ ⟨"java/lang/Object", "clone", "()Ljava/lang/Object;"⟩).before a0 Z = true) (w6 : (Cond.castable ad "java/lang/Cloneable").before a0 Z = true)
    (eT : T.heap = h) (O : Ow K Z h n0 D) (hK : (K t).1 = .array ty) {cap : Nat} (hq : cA' D a t cap = some D') {g : JFrame} (hg : g.method = m) (hsize : g.locals.size = c.maxLocals) {rest : List Value} (hs : g.stack = .ref (n0 + a) :: rest) (hd : decode c.code g.pc = .ok (.invokevirtual index, 3))
    (hf : 1 ≤ R.frames) {W : Nat} (hW : 2 * g.monitorRoom + (rest.map fun v => v.category).sum ≤ W) (hl : W + 14 ≤ R.locals) (hc : cells + 1 ≤ R.cells) (hsl : slots + cap ≤ R.slots) :
    ∃ T' h', Stand p l e R s m args below meth c T' locs (cells + 1) (slots + cap) ∧ T'.heap = h' ∧ Ow K Z h' n0 D' ∧ ∀ target, Steps p.tables e below (T'.setTop { g with pc := g.pc + 3, stack := .ref (n0 + D.length) :: rest }) target → Steps p.tables e below (T.setTop g) target := by
  obtain ⟨vs, h1, h2, rfl⟩ := cA_e hq
  obtain ⟨E, cl, A, hsl', hlen, hfit⟩ := (O.2 a t vs h1).1 ty hK
  rw [← had] at E
  obtain ⟨c2, k, e1, e2, e3, e4, e5⟩ := E
  cases A.1.symm.trans e1
  obtain ⟨c1, cC, g1, g2, g3⟩ := Cond.castable_spec w6
  cases e2.symm.trans g1
  have hal : Z.vm.Alike T.vm := hZ.alike.trans X.warmed.alike
  have hsz : cl.slots.size = vs.length := by rw [hsl', sh_len]
  have hfc : ∀ i v, cl.slots[i]? = some v → Z.fitsSlot cl.cls .none i v = true := fun i v hv => by
    obtain ⟨-, k2, hk2, comp, hkind⟩ := A.2.1
    have e : Z.slotType? cl.cls .none i = some ty := by simp [State.slotType?, hk2, hkind]
    have hv' : ∃ w ∈ vs, sh n0 w = v := by
      rw [hsl'] at hv
      have hm : v ∈ vs.map (sh n0) := by
        have := Array.mem_of_getElem? hv
        simpa using this
      exact List.mem_map.mp hm
    obtain ⟨w, hw, rfl⟩ := hv'
    have hfw : fits ty (sh n0 w) = true := by
      have := hfit w hw
      cases w <;> first | exact this | (cases ty <;> first | (cases this; done) | rfl)
    simpa [State.fitsSlot, e] using hfw
  obtain ⟨vm', X', st⟩ := X.cloneArray hx hown (mv hZ w1) (mv hZ w2) (mv hZ w3) (mv hZ w4) (mv hZ w5) (a := n0 + a) (by rw [eT]; exact A.1) A.2.1.1 A.2.2 (by rw [hZ.alike.findClass]; exact e2) (by rw [hZ.alike.findClass]; exact g2) (by rw [hZ.alike.assignable]; exact g3)
    (fun i v hv => by have q := hfc i v hv; rw [← State.fitsSlot_setVm hal] at q; exact q) hg hsize hs hd hf (by omega) hc (by omega)
    (by obtain ⟨-, k2, hk2, comp, hkind⟩ := A.2.1; rw [hZ.alike.clonesLoader]; exact Vm.clonesLoader_of_array hk2 hkind)
  subst eT
  have hs0 := O.1
  refine ⟨_, _, X'.more (Nat.le_refl _) (by omega), rfl, O.push (h' := T.heap.push _) ⟨by simp, fun a c h => ?_⟩ (by simp) ⟨fun ty' hK' => ?_, fun C hK' => by rw [hK] at hK'; cases hK'⟩, by rw [← hs0]; exact st⟩
  · rw [Array.getElem?_push_lt (Array.getElem?_eq_some_iff.mp h).1]; exact (Array.getElem?_eq_getElem _).symm.trans h
  · cases hK.symm.trans hK'
    rw [← hs0, ← had]
    exact ⟨⟨_, k, Array.getElem?_push_size, e2, e3, rfl, e5⟩, _, ⟨Array.getElem?_push_size, ⟨fun _ z => (by cases z), A.2.1.2⟩, fun z => (by cases z)⟩, hsl', hlen, hfit⟩
theorem castW (X : Stand p l e R s m args below meth c T locs cells slots) (hx : p.tables.exec = Jvm.exec) (hZ : Z.Warmed39 s.vm) {own ad : String} {index : Nat} {ty : FieldType} (hown : s.vm.findClass own = some m.cls) (w : (Cond.classLink own index ad).before a0 Z = true) (had : ad = "[" ++ ty.toString) (eT : T.heap = h) (O : Ow K Z h n0 D) {q : Nat} (hck : ck D a t = some q) (hK : (K t).1 = .array ty)
    {g : JFrame} (hg : g.method = m) {rest : List Value} (hs : g.stack = .ref (n0 + a) :: rest) (hd : decode c.code g.pc = .ok (.checkcast index, 3)) : ∃ T', Stand p l e R s m args below meth c T' locs cells slots ∧ T'.heap = h ∧ ∀ target, Steps p.tables e below (T'.setTop { g with pc := g.pc + 3 }) target → Steps p.tables e below (T.setTop g) target := by
  obtain ⟨vs, h1⟩ := ck_e hck
  obtain ⟨E, -⟩ := (O.2 a t vs h1).1 ty hK
  rw [← had] at E
  exact castY X hx hZ hown w eT (Ins.self E) hg hs hd
end OwnLaws
def Kt1 : Kt := fun k => match k with
  | 0 => ((.array .int), [])
  | 1 => ((.object "com/example/sondage/sondage/graph/DisjointSets"), [("parent", "[I"), ("size", "[I")])
  | _ => (.int, [])
theorem lay1 {Z : State} {a0 : Array Value} (hw : ∀ d ∈ tables_1, d.before a0 Z = true) : Lay Kt1 Z a0 := by
  intro t C hC
  match t, hC with
  | 0, hC => cases hC
  | 1, hC =>
    cases hC
    refine ⟨fun q hq => ?_, by decide⟩
    have hq' : q ∈ [(("parent", "[I") : String × String), (("size", "[I") : String × String)] := hq
    simp only [List.mem_cons, List.not_mem_nil, or_false] at hq'
    rcases hq' with rfl | rfl
    · exact ⟨Or.inr (hw _ (List.mem_of_getElem? (i := 11) rfl)), _, (by decide : parseFieldDescriptor _ = some (.array .int))⟩
    · exact ⟨Or.inr (hw _ (List.mem_of_getElem? (i := 13) rfl)), _, (by decide : parseFieldDescriptor _ = some (.array .int))⟩
  | n + 2, hC => cases hC
theorem d1_0 : decode prog_28_method_1_code 0 = .ok (.aload_n 0, 1) := by decide +kernel
theorem d1_1 : decode prog_28_method_1_code 1 = .ok (.invokespecial 1, 3) := by decide +kernel
theorem d1_4 : decode prog_28_method_1_code 4 = .ok (.aload_n 0, 1) := by decide +kernel
theorem d1_5 : decode prog_28_method_1_code 5 = .ok (.iload_n 1, 1) := by decide +kernel
theorem d1_6 : decode prog_28_method_1_code 6 = .ok (.newarray .int, 2) := by decide +kernel
theorem d1_8 : decode prog_28_method_1_code 8 = .ok (.putfield 7, 3) := by decide +kernel
theorem d1_11 : decode prog_28_method_1_code 11 = .ok (.aload_n 0, 1) := by decide +kernel
theorem d1_12 : decode prog_28_method_1_code 12 = .ok (.iload_n 1, 1) := by decide +kernel
theorem d1_13 : decode prog_28_method_1_code 13 = .ok (.newarray .int, 2) := by decide +kernel
theorem d1_15 : decode prog_28_method_1_code 15 = .ok (.putfield 13, 3) := by decide +kernel
theorem d1_18 : decode prog_28_method_1_code 18 = .ok (.iconst 0, 1) := by decide +kernel
theorem d1_19 : decode prog_28_method_1_code 19 = .ok (.istore_n 2, 1) := by decide +kernel
theorem d1_20 : decode prog_28_method_1_code 20 = .ok (.iload_n 2, 1) := by decide +kernel
theorem d1_21 : decode prog_28_method_1_code 21 = .ok (.iload_n 1, 1) := by decide +kernel
theorem d1_22 : decode prog_28_method_1_code 22 = .ok (.if_icmp .ge 23, 3) := by decide +kernel
theorem d1_25 : decode prog_28_method_1_code 25 = .ok (.aload_n 0, 1) := by decide +kernel
theorem d1_26 : decode prog_28_method_1_code 26 = .ok (.getfield 7, 3) := by decide +kernel
theorem d1_29 : decode prog_28_method_1_code 29 = .ok (.iload_n 2, 1) := by decide +kernel
theorem d1_30 : decode prog_28_method_1_code 30 = .ok (.iload_n 2, 1) := by decide +kernel
theorem d1_31 : decode prog_28_method_1_code 31 = .ok (.iastore, 1) := by decide +kernel
theorem d1_32 : decode prog_28_method_1_code 32 = .ok (.aload_n 0, 1) := by decide +kernel
theorem d1_33 : decode prog_28_method_1_code 33 = .ok (.getfield 13, 3) := by decide +kernel
theorem d1_36 : decode prog_28_method_1_code 36 = .ok (.iload_n 2, 1) := by decide +kernel
theorem d1_37 : decode prog_28_method_1_code 37 = .ok (.iconst 1, 1) := by decide +kernel
theorem d1_38 : decode prog_28_method_1_code 38 = .ok (.iastore, 1) := by decide +kernel
theorem d1_39 : decode prog_28_method_1_code 39 = .ok (.iinc 2 1, 3) := by decide +kernel
theorem d1_42 : decode prog_28_method_1_code 42 = .ok (.goto (-22), 3) := by decide +kernel
theorem d1_45 : decode prog_28_method_1_code 45 = .ok (.return_, 1) := by decide +kernel
theorem pn_1 : plainName "com/example/sondage/sondage/graph/DisjointSets" = true := by first | (simp [plainName, overriddenIn]; done) | decide +kernel
def b1_20 : Nat → Hp → Nat → Int32 → Int32 → Option (Hp)
  | 0, _, _, _, _ => none
  | fu + 1, D, ob0, i1, i2 =>
  if i2 < i1 then ((gR D ob0 1 0).bind fun x7 =>
  (wV D x7 0 i2 (.int i2)).bind fun D9 =>
  (gR D9 ob0 1 1).bind fun x10 =>
  (wV D9 x10 0 i2 (.int (1 : Int32))).bind fun D12 =>
  b1_20 fu D12 ob0 i1 (i2 + (1 : Int32))) else (some D)
set_option maxRecDepth 65536 in
set_option maxHeartbeats 40000000 in
theorem bt1_20 {p : Program} {l : Launch} {e : Env} {s : State} {m : MethodId} {args : Array Value} {below : List Frame} {meth : Method} {c : Code} {Z : State} {a0 : Array Value} {n0 : Nat} {D' : Hp} (hw : ∀ d ∈ tables_1, d.before a0 Z = true) (hC : Cx p s m meth c Z prog_28_method_1_code 3 none "com/example/sondage/sondage/graph/DisjointSets" "<init>") (fu : Nat) : ∀ {T0 : State} {locs : List Loc} {cells slots : Nat} {h0 : Heap} {D : Hp} {ob0 : Nat} {i1 : Int32} {i2 : Int32}, (Stand p l e ({ frames := 1, cells := 2, slots := 16, locals := 12 } : Room) s m args below meth c T0 locs cells slots) → (T0.heap = h0) → (Ow Kt1 Z h0 n0 D) → (Fr n0 locs) → (cells ≤ 2) → (slots ≤ 16) → (b1_20 fu D ob0 i1 i2 = some D') → Gl p e below s 2 16 (Qw Kt1 Z n0 none D') (T0.setTop (mkF m 20 #[.val (.ref (n0 + ob0)), .val (.int i1), .val (.int i2)] [])) := by
  obtain ⟨hx, hZ, hby, hml, hown, hnm, hret, hlk⟩ := id hC
  have hml : c.maxLocals = 3 := hml
  induction fu with
  | zero => intro T0 locs cells slots h0 D ob0 i1 i2 X0 e0 O0 N0 hcc hss hf; cases hf
  | succ fu ih =>
    intro T0 locs cells slots h0 D ob0 i1 i2 X0 e0 O0 N0 hcc hss hf
    rw [b1_20] at hf
    refine Gl.on (B := T0.setTop (mkF m 22 #[.val (.ref (n0 + ob0)), .val (.int i1), .val (.int i2)] [(.int i1), (.int i2)])) (fun t k => ?_) ?_
    · show Steps p.tables e below (T0.setTop (mkF m 20 #[.val (.ref (n0 + ob0)), .val (.int i1), .val (.int i2)] [])) _
      refine XS.iloadN X0.here hx rfl (hb hby d1_20) rfl ?_
      show Steps p.tables e below (T0.setTop (mkF m 21 #[.val (.ref (n0 + ob0)), .val (.int i1), .val (.int i2)] [(.int i2)])) _
      refine XS.iloadN X0.here hx rfl (hb hby d1_21) rfl ?_
      exact k
    by_cases hc6 : i2 < i1
    · rw [if_pos hc6] at hf
      obtain ⟨x7, hx7, hf⟩ := own_bind hf
      obtain ⟨T8, X8, e8, st8⟩ := getF X0 hx hZ hown (host := "") (Or.inl (hw _ (List.mem_of_getElem? (i := 10) rfl))) Via.refl e0 (O0.fld (gR_e hx7) rfl rfl) (g := (mkF m 26 #[.val (.ref (n0 + ob0)), .val (.int i1), .val (.int i2)] [(.ref (n0 + ob0))])) rfl rfl (hb hby d1_26)
      obtain ⟨D9, hq9, hf⟩ := own_bind hf
      obtain ⟨T9, h9, L9, X9, e9, O9, N9, st9⟩ := stIW X8 hx hZ e8 O0 N0 hq9 rfl (g := (mkF m 31 #[.val (.ref (n0 + ob0)), .val (.int i1), .val (.int i2)] [(.int i2), (.int i2), (.ref (n0 + x7))])) rfl rfl (hb hby d1_31)
      obtain ⟨x10, hx10, hf⟩ := own_bind hf
      obtain ⟨T11, X11, e11, st11⟩ := getF X9 hx hZ hown (host := "") (Or.inl (hw _ (List.mem_of_getElem? (i := 12) rfl))) Via.refl e9 (O9.fld (gR_e hx10) rfl rfl) (g := (mkF m 33 #[.val (.ref (n0 + ob0)), .val (.int i1), .val (.int i2)] [(.ref (n0 + ob0))])) rfl rfl (hb hby d1_33)
      obtain ⟨D12, hq12, hf⟩ := own_bind hf
      obtain ⟨T12, h12, L12, X12, e12, O12, N12, st12⟩ := stIW X11 hx hZ e11 O9 N9 hq12 rfl (g := (mkF m 38 #[.val (.ref (n0 + ob0)), .val (.int i1), .val (.int i2)] [(.int (1 : Int32)), (.int i2), (.ref (n0 + x10))])) rfl rfl (hb hby d1_38)
      refine Gl.on (B := T12.setTop (mkF m 20 #[.val (.ref (n0 + ob0)), .val (.int i1), .val (.int (i2 + (1 : Int32)))] [])) (fun t k => ?_) ?_
      · show Steps p.tables e below (T0.setTop (mkF m 22 #[.val (.ref (n0 + ob0)), .val (.int i1), .val (.int i2)] [(.int i1), (.int i2)])) _
        refine XS.icmpNo X0.here hx rfl (hb hby d1_22) rfl (tlt hc6).2.1 ?_
        show Steps p.tables e below (T0.setTop (mkF m 25 #[.val (.ref (n0 + ob0)), .val (.int i1), .val (.int i2)] [])) _
        refine XS.aloadN X0.here hx rfl (hb hby d1_25) rfl rfl ?_
        show Steps p.tables e below (T0.setTop (mkF m 26 #[.val (.ref (n0 + ob0)), .val (.int i1), .val (.int i2)] [(.ref (n0 + ob0))])) _
        refine st8 _ ?_
        show Steps p.tables e below (T8.setTop (mkF m 29 #[.val (.ref (n0 + ob0)), .val (.int i1), .val (.int i2)] [(.ref (n0 + x7))])) _
        refine XS.iloadN X8.here hx rfl (hb hby d1_29) rfl ?_
        show Steps p.tables e below (T8.setTop (mkF m 30 #[.val (.ref (n0 + ob0)), .val (.int i1), .val (.int i2)] [(.int i2), (.ref (n0 + x7))])) _
        refine XS.iloadN X8.here hx rfl (hb hby d1_30) rfl ?_
        show Steps p.tables e below (T8.setTop (mkF m 31 #[.val (.ref (n0 + ob0)), .val (.int i1), .val (.int i2)] [(.int i2), (.int i2), (.ref (n0 + x7))])) _
        refine st9 _ ?_
        show Steps p.tables e below (T9.setTop (mkF m 32 #[.val (.ref (n0 + ob0)), .val (.int i1), .val (.int i2)] [])) _
        refine XS.aloadN X9.here hx rfl (hb hby d1_32) rfl rfl ?_
        show Steps p.tables e below (T9.setTop (mkF m 33 #[.val (.ref (n0 + ob0)), .val (.int i1), .val (.int i2)] [(.ref (n0 + ob0))])) _
        refine st11 _ ?_
        show Steps p.tables e below (T11.setTop (mkF m 36 #[.val (.ref (n0 + ob0)), .val (.int i1), .val (.int i2)] [(.ref (n0 + x10))])) _
        refine XS.iloadN X11.here hx rfl (hb hby d1_36) rfl ?_
        show Steps p.tables e below (T11.setTop (mkF m 37 #[.val (.ref (n0 + ob0)), .val (.int i1), .val (.int i2)] [(.int i2), (.ref (n0 + x10))])) _
        refine XS.iconst X11.here hx rfl (hb hby d1_37) ?_
        show Steps p.tables e below (T11.setTop (mkF m 38 #[.val (.ref (n0 + ob0)), .val (.int i1), .val (.int i2)] [(.int (1 : Int32)), (.int i2), (.ref (n0 + x10))])) _
        refine st12 _ ?_
        show Steps p.tables e below (T12.setTop (mkF m 39 #[.val (.ref (n0 + ob0)), .val (.int i1), .val (.int i2)] [])) _
        refine XS.iinc X12.here hx rfl (hb hby d1_39) rfl (l' := #[.val (.ref (n0 + ob0)), .val (.int i1), .val (.int (i2 + (1 : Int32)))]) rfl ?_
        show Steps p.tables e below (T12.setTop (mkF m 42 #[.val (.ref (n0 + ob0)), .val (.int i1), .val (.int (i2 + (1 : Int32)))] [])) _
        refine XS.goto X12.here hx rfl (pc0 := 42) (pc' := 20) rfl (hb hby d1_42) (by decide) (by decide) ?_
        exact k
      exact ih X12 e12 O12 N12 (by omega) (by omega) hf
    · rw [if_neg hc6] at hf
      refine Gl.on (B := T0.setTop (mkF m 45 #[.val (.ref (n0 + ob0)), .val (.int i1), .val (.int i2)] [])) (fun t k => ?_) ?_
      · show Steps p.tables e below (T0.setTop (mkF m 22 #[.val (.ref (n0 + ob0)), .val (.int i1), .val (.int i2)] [(.int i1), (.int i2)])) _
        refine XS.icmpYes X0.here hx rfl (pc0 := 22) (pc' := 45) rfl (hb hby d1_22) rfl (flt hc6).2.1 (by decide) (by decide) ?_
        exact k
      obtain rfl := own_inj1 hf
      exact Gl.outV X0 hx hlk hret (hb hby d1_45) ⟨rfl, N0, by rw [e0]; exact O0⟩ (by show _ ≤ 2; omega) (by show _ ≤ 16; omega)
def f1 (D : Hp) (ob0 : Nat) (i1 : Int32) : Option (Hp) :=
  own_let (D.length) fun a2 => (nA D 0 i1 8 (.int (0 : Int32))).bind fun D2 =>
  (pV D2 ob0 1 0 (.ref a2)).bind fun D3 =>
  own_let (D3.length) fun a4 => (nA D3 0 i1 8 (.int (0 : Int32))).bind fun D4 =>
  (pV D4 ob0 1 1 (.ref a4)).bind fun D5 =>
  b1_20 12 D5 ob0 i1 (0 : Int32)
theorem ef_1 (m : MethodId) (n0 : Nat) (ob0 : Nat) (i1 : Int32) : entryFrame m #[(.ref (n0 + ob0)), (.int i1)] 3 = mkF m 0 #[.val (.ref (n0 + ob0)), .val (.int i1), .unset] [] := by first | (simp [entryFrame, mkF, argsToLocals, Value.category]; done) | rfl
set_option maxRecDepth 65536 in
set_option maxHeartbeats 40000000 in
theorem ct1 {l : Launch} {Z : State} {a0 : Array Value} (hw : ∀ d ∈ tables_1, d.before a0 Z = true) {n0 : Nat} {D D' : Hp} {ob0 : Nat} {i1 : Int32} (hf : f1 D ob0 i1 = some D') :
    Ct Kt1 l Z (⟨"com/example/sondage/sondage/graph/DisjointSets", "<init>", "(I)V"⟩ : MethodName) (.code (⟨"com/example/sondage/sondage/graph/DisjointSets", "<init>", "(I)V"⟩ : MethodName) prog_28_method_1_code 3 none) ({ frames := 1, cells := 2, slots := 16, locals := 12 } : Room) n0 D #[(.ref (n0 + ob0)), (.int i1)] none D' := by
  refine Ct.of (plainFor_of_name pn_1) ?_
  intro p e s m below meth c T0 h0 hC X0 e0 O0
  obtain ⟨hx, hZ, hby, hml, hown, hnm, hret, hlk⟩ := id hC
  have hml : c.maxLocals = 3 := hml
  have hown : s.vm.findClass "com/example/sondage/sondage/graph/DisjointSets" = some m.cls := hown
  have hnm : meth.name = "<init>" := hnm
  have N0 := Fr.nil n0
  refine Gl.on (fun t k => castTop (ef_1 m n0 ob0 i1) k) ?_
  rw [f1] at hf
  obtain ⟨T1, X1, e1, st1⟩ := initO X0 hx hZ hown (hw _ (List.mem_of_getElem? (i := 6) rfl)) (hw _ (List.mem_of_getElem? (i := 7) rfl)) (hw _ (List.mem_of_getElem? (i := 8) rfl)) e0 (g := (mkF m 1 #[.val (.ref (n0 + ob0)), .val (.int i1), .unset] [(.ref (n0 + ob0))])) rfl (by rw [hml]; rfl) rfl (hb hby d1_1) (by decide) (W := 0) (by show 2 * 0 + _ ≤ _; exact Nat.le_of_eq rfl) (by decide)
  obtain ⟨a2, ha2, hf⟩ := own_letE hf
  obtain ⟨D2, hD2, hf⟩ := own_bind hf
  obtain ⟨T2, h2, X2, e2, O2, st2⟩ := newAW X1 hx hZ (aty := .int) (hw _ (List.mem_of_getElem? (i := 9) rfl)) e1 O0 rfl rfl hD2 (g := (mkF m 6 #[.val (.ref (n0 + ob0)), .val (.int i1), .unset] [(.int i1), (.ref (n0 + ob0))])) rfl (hb hby d1_6) rfl (by decide) (by show _ + 1 ≤ 2; omega) (by show _ + 8 ≤ 16; omega)
  rw [ha2] at st2
  obtain ⟨D3, hq3, hf⟩ := own_bind hf
  obtain ⟨T3, h3, L3, X3, e3, O3, N3, st3⟩ := putW X2 hx hZ hown (hw _ (List.mem_of_getElem? (i := 10) rfl)) (lay1 hw) e2 O2 N0 hq3 rfl rfl (Or.inr ⟨(hw _ (List.mem_of_getElem? (i := 11) rfl)), rfl, hnm⟩) (hw _ (List.mem_of_getElem? (i := 1) rfl)) (ty := (.array .int)) (by decide) rfl rfl (g := (mkF m 8 #[.val (.ref (n0 + ob0)), .val (.int i1), .unset] [(.ref (n0 + a2)), (.ref (n0 + ob0))])) rfl rfl (hb hby d1_8)
  obtain ⟨a4, ha4, hf⟩ := own_letE hf
  obtain ⟨D4, hD4, hf⟩ := own_bind hf
  obtain ⟨T4, h4, X4, e4, O4, st4⟩ := newAW X3 hx hZ (aty := .int) (hw _ (List.mem_of_getElem? (i := 9) rfl)) e3 O3 rfl rfl hD4 (g := (mkF m 13 #[.val (.ref (n0 + ob0)), .val (.int i1), .unset] [(.int i1), (.ref (n0 + ob0))])) rfl (hb hby d1_13) rfl (by decide) (by show _ + 1 ≤ 2; omega) (by show _ + 8 ≤ 16; omega)
  rw [ha4] at st4
  obtain ⟨D5, hq5, hf⟩ := own_bind hf
  obtain ⟨T5, h5, L5, X5, e5, O5, N5, st5⟩ := putW X4 hx hZ hown (hw _ (List.mem_of_getElem? (i := 12) rfl)) (lay1 hw) e4 O4 N3 hq5 rfl rfl (Or.inr ⟨(hw _ (List.mem_of_getElem? (i := 13) rfl)), rfl, hnm⟩) (hw _ (List.mem_of_getElem? (i := 1) rfl)) (ty := (.array .int)) (by decide) rfl rfl (g := (mkF m 15 #[.val (.ref (n0 + ob0)), .val (.int i1), .unset] [(.ref (n0 + a4)), (.ref (n0 + ob0))])) rfl rfl (hb hby d1_15)
  refine Gl.on (B := T5.setTop (mkF m 20 #[.val (.ref (n0 + ob0)), .val (.int i1), .val (.int (0 : Int32))] [])) (fun t k => ?_) ?_
  · show Steps p.tables e below (T0.setTop (mkF m 0 #[.val (.ref (n0 + ob0)), .val (.int i1), .unset] [])) _
    refine XS.aloadN X0.here hx rfl (hb hby d1_0) rfl rfl ?_
    show Steps p.tables e below (T0.setTop (mkF m 1 #[.val (.ref (n0 + ob0)), .val (.int i1), .unset] [(.ref (n0 + ob0))])) _
    refine st1 _ ?_
    show Steps p.tables e below (T1.setTop (mkF m 4 #[.val (.ref (n0 + ob0)), .val (.int i1), .unset] [])) _
    refine XS.aloadN X1.here hx rfl (hb hby d1_4) rfl rfl ?_
    show Steps p.tables e below (T1.setTop (mkF m 5 #[.val (.ref (n0 + ob0)), .val (.int i1), .unset] [(.ref (n0 + ob0))])) _
    refine XS.iloadN X1.here hx rfl (hb hby d1_5) rfl ?_
    show Steps p.tables e below (T1.setTop (mkF m 6 #[.val (.ref (n0 + ob0)), .val (.int i1), .unset] [(.int i1), (.ref (n0 + ob0))])) _
    refine st2 _ ?_
    show Steps p.tables e below (T2.setTop (mkF m 8 #[.val (.ref (n0 + ob0)), .val (.int i1), .unset] [(.ref (n0 + a2)), (.ref (n0 + ob0))])) _
    refine st3 _ ?_
    show Steps p.tables e below (T3.setTop (mkF m 11 #[.val (.ref (n0 + ob0)), .val (.int i1), .unset] [])) _
    refine XS.aloadN X3.here hx rfl (hb hby d1_11) rfl rfl ?_
    show Steps p.tables e below (T3.setTop (mkF m 12 #[.val (.ref (n0 + ob0)), .val (.int i1), .unset] [(.ref (n0 + ob0))])) _
    refine XS.iloadN X3.here hx rfl (hb hby d1_12) rfl ?_
    show Steps p.tables e below (T3.setTop (mkF m 13 #[.val (.ref (n0 + ob0)), .val (.int i1), .unset] [(.int i1), (.ref (n0 + ob0))])) _
    refine st4 _ ?_
    show Steps p.tables e below (T4.setTop (mkF m 15 #[.val (.ref (n0 + ob0)), .val (.int i1), .unset] [(.ref (n0 + a4)), (.ref (n0 + ob0))])) _
    refine st5 _ ?_
    show Steps p.tables e below (T5.setTop (mkF m 18 #[.val (.ref (n0 + ob0)), .val (.int i1), .unset] [])) _
    refine XS.iconst X5.here hx rfl (hb hby d1_18) ?_
    show Steps p.tables e below (T5.setTop (mkF m 19 #[.val (.ref (n0 + ob0)), .val (.int i1), .unset] [(.int (0 : Int32))])) _
    refine XS.istoreN X5.here hx rfl (hb hby d1_19) rfl (l' := #[.val (.ref (n0 + ob0)), .val (.int i1), .val (.int (0 : Int32))]) rfl ?_
    exact k
  exact bt1_20 hw hC 12 X5 e5 O5 N5 (by omega) (by omega) hf
theorem d3_0 : decode method_2_code 0 = .ok (.aload_n 0, 1) := by decide +kernel
theorem d3_1 : decode method_2_code 1 = .ok (.iload_n 1, 1) := by decide +kernel
theorem d3_2 : decode method_2_code 2 = .ok (.iaload, 1) := by decide +kernel
theorem d3_3 : decode method_2_code 3 = .ok (.istore_n 3, 1) := by decide +kernel
theorem d3_4 : decode method_2_code 4 = .ok (.aload_n 0, 1) := by decide +kernel
theorem d3_5 : decode method_2_code 5 = .ok (.iload_n 2, 1) := by decide +kernel
theorem d3_6 : decode method_2_code 6 = .ok (.iaload, 1) := by decide +kernel
theorem d3_7 : decode method_2_code 7 = .ok (.istore 4, 2) := by decide +kernel
theorem d3_9 : decode method_2_code 9 = .ok (.iload_n 3, 1) := by decide +kernel
theorem d3_10 : decode method_2_code 10 = .ok (.iload 4, 2) := by decide +kernel
theorem d3_12 : decode method_2_code 12 = .ok (.if_icmp .ne 5, 3) := by decide +kernel
theorem d3_15 : decode method_2_code 15 = .ok (.iconst 0, 1) := by decide +kernel
theorem d3_16 : decode method_2_code 16 = .ok (.ireturn, 1) := by decide +kernel
theorem d3_17 : decode method_2_code 17 = .ok (.aload_n 0, 1) := by decide +kernel
theorem d3_18 : decode method_2_code 18 = .ok (.iconst 0, 1) := by decide +kernel
theorem d3_19 : decode method_2_code 19 = .ok (.iaload, 1) := by decide +kernel
theorem d3_20 : decode method_2_code 20 = .ok (.iload 4, 2) := by decide +kernel
theorem d3_22 : decode method_2_code 22 = .ok (.if_icmp .ne 7, 3) := by decide +kernel
theorem d3_25 : decode method_2_code 25 = .ok (.aload_n 0, 1) := by decide +kernel
theorem d3_26 : decode method_2_code 26 = .ok (.iconst 0, 1) := by decide +kernel
theorem d3_27 : decode method_2_code 27 = .ok (.iload_n 3, 1) := by decide +kernel
theorem d3_28 : decode method_2_code 28 = .ok (.iastore, 1) := by decide +kernel
theorem d3_29 : decode method_2_code 29 = .ok (.aload_n 0, 1) := by decide +kernel
theorem d3_30 : decode method_2_code 30 = .ok (.iconst 1, 1) := by decide +kernel
theorem d3_31 : decode method_2_code 31 = .ok (.iaload, 1) := by decide +kernel
theorem d3_32 : decode method_2_code 32 = .ok (.iload 4, 2) := by decide +kernel
theorem d3_34 : decode method_2_code 34 = .ok (.if_icmp .ne 7, 3) := by decide +kernel
theorem d3_37 : decode method_2_code 37 = .ok (.aload_n 0, 1) := by decide +kernel
theorem d3_38 : decode method_2_code 38 = .ok (.iconst 1, 1) := by decide +kernel
theorem d3_39 : decode method_2_code 39 = .ok (.iload_n 3, 1) := by decide +kernel
theorem d3_40 : decode method_2_code 40 = .ok (.iastore, 1) := by decide +kernel
theorem d3_41 : decode method_2_code 41 = .ok (.aload_n 0, 1) := by decide +kernel
theorem d3_42 : decode method_2_code 42 = .ok (.iconst 2, 1) := by decide +kernel
theorem d3_43 : decode method_2_code 43 = .ok (.iaload, 1) := by decide +kernel
theorem d3_44 : decode method_2_code 44 = .ok (.iload 4, 2) := by decide +kernel
theorem d3_46 : decode method_2_code 46 = .ok (.if_icmp .ne 7, 3) := by decide +kernel
theorem d3_49 : decode method_2_code 49 = .ok (.aload_n 0, 1) := by decide +kernel
theorem d3_50 : decode method_2_code 50 = .ok (.iconst 2, 1) := by decide +kernel
theorem d3_51 : decode method_2_code 51 = .ok (.iload_n 3, 1) := by decide +kernel
theorem d3_52 : decode method_2_code 52 = .ok (.iastore, 1) := by decide +kernel
theorem d3_53 : decode method_2_code 53 = .ok (.aload_n 0, 1) := by decide +kernel
theorem d3_54 : decode method_2_code 54 = .ok (.iconst 3, 1) := by decide +kernel
theorem d3_55 : decode method_2_code 55 = .ok (.iaload, 1) := by decide +kernel
theorem d3_56 : decode method_2_code 56 = .ok (.iload 4, 2) := by decide +kernel
theorem d3_58 : decode method_2_code 58 = .ok (.if_icmp .ne 7, 3) := by decide +kernel
theorem d3_61 : decode method_2_code 61 = .ok (.aload_n 0, 1) := by decide +kernel
theorem d3_62 : decode method_2_code 62 = .ok (.iconst 3, 1) := by decide +kernel
theorem d3_63 : decode method_2_code 63 = .ok (.iload_n 3, 1) := by decide +kernel
theorem d3_64 : decode method_2_code 64 = .ok (.iastore, 1) := by decide +kernel
theorem d3_65 : decode method_2_code 65 = .ok (.iconst 1, 1) := by decide +kernel
theorem d3_66 : decode method_2_code 66 = .ok (.ireturn, 1) := by decide +kernel
theorem pn_3 : plainName "com/example/sondage/sondage/graph/DisjointSetsFindPinLaw" = true := by first | (simp [plainName, overriddenIn]; done) | decide +kernel
def b3_53 (D : Hp) (ob0 : Nat) (i3 : Int32) (i4 : Int32) : Option (Int32 × Hp) :=
  (rI D ob0 0 (3 : Int32)).bind fun x13 =>
  if x13 = i4 then ((wV D ob0 0 (3 : Int32) (.int i3)).bind fun D15 =>
  some ((1 : Int32), D15)) else (some ((1 : Int32), D))
set_option maxRecDepth 65536 in
set_option maxHeartbeats 40000000 in
theorem bt3_53 {p : Program} {l : Launch} {e : Env} {s : State} {m : MethodId} {args : Array Value} {below : List Frame} {meth : Method} {c : Code} {Z : State} {a0 : Array Value} {n0 : Nat} {D' : Hp} {r : Int32} {T0 : State} {locs : List Loc} {cells slots : Nat} {h0 : Heap} {D : Hp} {ob0 : Nat} {i1 : Int32} {i2 : Int32} {i3 : Int32} {i4 : Int32} (hw : ∀ d ∈ tables_1, d.before a0 Z = true) (hC : Cx p s m meth c Z method_2_code 5 (some .boolean) "com/example/sondage/sondage/graph/DisjointSetsFindPinLaw" "merge") (X0 : Stand p l e ({ frames := 0, cells := 0, slots := 0, locals := 0 } : Room) s m args below meth c T0 locs cells slots) (e0 : T0.heap = h0) (O0 : Ow Kt1 Z h0 n0 D) (N0 : Fr n0 locs) (hcc : cells ≤ 0) (hss : slots ≤ 0) (hf : b3_53 D ob0 i3 i4 = some (r, D')) : Gl p e below s 0 0 (Qw Kt1 Z n0 (some (.int r)) D') (T0.setTop (mkF m 53 #[.val (.ref (n0 + ob0)), .val (.int i1), .val (.int i2), .val (.int i3), .val (.int i4)] [])) := by
  obtain ⟨hx, hZ, hby, hml, hown, hnm, hret, hlk⟩ := id hC
  have hml : c.maxLocals = 5 := hml
  rw [b3_53] at hf
  obtain ⟨x13, hx13, hf⟩ := own_bind hf
  refine Gl.on (B := T0.setTop (mkF m 58 #[.val (.ref (n0 + ob0)), .val (.int i1), .val (.int i2), .val (.int i3), .val (.int i4)] [(.int i4), (.int x13)])) (fun t k => ?_) ?_
  · show Steps p.tables e below (T0.setTop (mkF m 53 #[.val (.ref (n0 + ob0)), .val (.int i1), .val (.int i2), .val (.int i3), .val (.int i4)] [])) _
    refine XS.aloadN X0.here hx rfl (hb hby d3_53) rfl rfl ?_
    show Steps p.tables e below (T0.setTop (mkF m 54 #[.val (.ref (n0 + ob0)), .val (.int i1), .val (.int i2), .val (.int i3), .val (.int i4)] [(.ref (n0 + ob0))])) _
    refine XS.iconst X0.here hx rfl (hb hby d3_54) ?_
    show Steps p.tables e below (T0.setTop (mkF m 55 #[.val (.ref (n0 + ob0)), .val (.int i1), .val (.int i2), .val (.int i3), .val (.int i4)] [(.int (3 : Int32)), (.ref (n0 + ob0))])) _
    refine ldW X0 hx hZ e0 O0 hx13 rfl (g := (mkF m 55 #[.val (.ref (n0 + ob0)), .val (.int i1), .val (.int i2), .val (.int i3), .val (.int i4)] [(.int (3 : Int32)), (.ref (n0 + ob0))])) rfl rfl (hb hby d3_55) _ ?_
    show Steps p.tables e below (T0.setTop (mkF m 56 #[.val (.ref (n0 + ob0)), .val (.int i1), .val (.int i2), .val (.int i3), .val (.int i4)] [(.int x13)])) _
    refine XS.iload X0.here hx rfl (hb hby d3_56) rfl ?_
    exact k
  by_cases hc14 : x13 = i4
  · rw [if_pos hc14] at hf
    obtain ⟨D15, hq15, hf⟩ := own_bind hf
    obtain ⟨T15, h15, L15, X15, e15, O15, N15, st15⟩ := stIW X0 hx hZ e0 O0 N0 hq15 rfl (g := (mkF m 64 #[.val (.ref (n0 + ob0)), .val (.int i1), .val (.int i2), .val (.int i3), .val (.int i4)] [(.int i3), (.int (3 : Int32)), (.ref (n0 + ob0))])) rfl rfl (hb hby d3_64)
    refine Gl.on (B := T15.setTop (mkF m 66 #[.val (.ref (n0 + ob0)), .val (.int i1), .val (.int i2), .val (.int i3), .val (.int i4)] [(.int (1 : Int32))])) (fun t k => ?_) ?_
    · show Steps p.tables e below (T0.setTop (mkF m 58 #[.val (.ref (n0 + ob0)), .val (.int i1), .val (.int i2), .val (.int i3), .val (.int i4)] [(.int i4), (.int x13)])) _
      refine XS.icmpNo X0.here hx rfl (hb hby d3_58) rfl (teq hc14).2 ?_
      show Steps p.tables e below (T0.setTop (mkF m 61 #[.val (.ref (n0 + ob0)), .val (.int i1), .val (.int i2), .val (.int i3), .val (.int i4)] [])) _
      refine XS.aloadN X0.here hx rfl (hb hby d3_61) rfl rfl ?_
      show Steps p.tables e below (T0.setTop (mkF m 62 #[.val (.ref (n0 + ob0)), .val (.int i1), .val (.int i2), .val (.int i3), .val (.int i4)] [(.ref (n0 + ob0))])) _
      refine XS.iconst X0.here hx rfl (hb hby d3_62) ?_
      show Steps p.tables e below (T0.setTop (mkF m 63 #[.val (.ref (n0 + ob0)), .val (.int i1), .val (.int i2), .val (.int i3), .val (.int i4)] [(.int (3 : Int32)), (.ref (n0 + ob0))])) _
      refine XS.iloadN X0.here hx rfl (hb hby d3_63) rfl ?_
      show Steps p.tables e below (T0.setTop (mkF m 64 #[.val (.ref (n0 + ob0)), .val (.int i1), .val (.int i2), .val (.int i3), .val (.int i4)] [(.int i3), (.int (3 : Int32)), (.ref (n0 + ob0))])) _
      refine st15 _ ?_
      show Steps p.tables e below (T15.setTop (mkF m 65 #[.val (.ref (n0 + ob0)), .val (.int i1), .val (.int i2), .val (.int i3), .val (.int i4)] [])) _
      refine XS.iconst X15.here hx rfl (hb hby d3_65) ?_
      exact k
    obtain ⟨rfl, rfl⟩ := own_inj hf
    exact Gl.outN X15 hx hlk (t := .boolean) hret (by simp) (hb hby d3_66) ⟨rfl, N15, by rw [e15]; exact O15⟩ (by show _ ≤ 0; omega) (by show _ ≤ 0; omega)
  · rw [if_neg hc14] at hf
    refine Gl.on (B := T0.setTop (mkF m 66 #[.val (.ref (n0 + ob0)), .val (.int i1), .val (.int i2), .val (.int i3), .val (.int i4)] [(.int (1 : Int32))])) (fun t k => ?_) ?_
    · show Steps p.tables e below (T0.setTop (mkF m 58 #[.val (.ref (n0 + ob0)), .val (.int i1), .val (.int i2), .val (.int i3), .val (.int i4)] [(.int i4), (.int x13)])) _
      refine XS.icmpYes X0.here hx rfl (pc0 := 58) (pc' := 65) rfl (hb hby d3_58) rfl (feq hc14).2 (by decide) (by decide) ?_
      show Steps p.tables e below (T0.setTop (mkF m 65 #[.val (.ref (n0 + ob0)), .val (.int i1), .val (.int i2), .val (.int i3), .val (.int i4)] [])) _
      refine XS.iconst X0.here hx rfl (hb hby d3_65) ?_
      exact k
    obtain ⟨rfl, rfl⟩ := own_inj hf
    exact Gl.outN X0 hx hlk (t := .boolean) hret (by simp) (hb hby d3_66) ⟨rfl, N0, by rw [e0]; exact O0⟩ (by show _ ≤ 0; omega) (by show _ ≤ 0; omega)
def b3_41 (D : Hp) (ob0 : Nat) (i3 : Int32) (i4 : Int32) : Option (Int32 × Hp) :=
  (rI D ob0 0 (2 : Int32)).bind fun x10 =>
  if x10 = i4 then ((wV D ob0 0 (2 : Int32) (.int i3)).bind fun D12 =>
  b3_53 D12 ob0 i3 i4) else (b3_53 D ob0 i3 i4)
set_option maxRecDepth 65536 in
set_option maxHeartbeats 40000000 in
theorem bt3_41 {p : Program} {l : Launch} {e : Env} {s : State} {m : MethodId} {args : Array Value} {below : List Frame} {meth : Method} {c : Code} {Z : State} {a0 : Array Value} {n0 : Nat} {D' : Hp} {r : Int32} {T0 : State} {locs : List Loc} {cells slots : Nat} {h0 : Heap} {D : Hp} {ob0 : Nat} {i1 : Int32} {i2 : Int32} {i3 : Int32} {i4 : Int32} (hw : ∀ d ∈ tables_1, d.before a0 Z = true) (hC : Cx p s m meth c Z method_2_code 5 (some .boolean) "com/example/sondage/sondage/graph/DisjointSetsFindPinLaw" "merge") (X0 : Stand p l e ({ frames := 0, cells := 0, slots := 0, locals := 0 } : Room) s m args below meth c T0 locs cells slots) (e0 : T0.heap = h0) (O0 : Ow Kt1 Z h0 n0 D) (N0 : Fr n0 locs) (hcc : cells ≤ 0) (hss : slots ≤ 0) (hf : b3_41 D ob0 i3 i4 = some (r, D')) : Gl p e below s 0 0 (Qw Kt1 Z n0 (some (.int r)) D') (T0.setTop (mkF m 41 #[.val (.ref (n0 + ob0)), .val (.int i1), .val (.int i2), .val (.int i3), .val (.int i4)] [])) := by
  obtain ⟨hx, hZ, hby, hml, hown, hnm, hret, hlk⟩ := id hC
  have hml : c.maxLocals = 5 := hml
  rw [b3_41] at hf
  obtain ⟨x10, hx10, hf⟩ := own_bind hf
  refine Gl.on (B := T0.setTop (mkF m 46 #[.val (.ref (n0 + ob0)), .val (.int i1), .val (.int i2), .val (.int i3), .val (.int i4)] [(.int i4), (.int x10)])) (fun t k => ?_) ?_
  · show Steps p.tables e below (T0.setTop (mkF m 41 #[.val (.ref (n0 + ob0)), .val (.int i1), .val (.int i2), .val (.int i3), .val (.int i4)] [])) _
    refine XS.aloadN X0.here hx rfl (hb hby d3_41) rfl rfl ?_
    show Steps p.tables e below (T0.setTop (mkF m 42 #[.val (.ref (n0 + ob0)), .val (.int i1), .val (.int i2), .val (.int i3), .val (.int i4)] [(.ref (n0 + ob0))])) _
    refine XS.iconst X0.here hx rfl (hb hby d3_42) ?_
    show Steps p.tables e below (T0.setTop (mkF m 43 #[.val (.ref (n0 + ob0)), .val (.int i1), .val (.int i2), .val (.int i3), .val (.int i4)] [(.int (2 : Int32)), (.ref (n0 + ob0))])) _
    refine ldW X0 hx hZ e0 O0 hx10 rfl (g := (mkF m 43 #[.val (.ref (n0 + ob0)), .val (.int i1), .val (.int i2), .val (.int i3), .val (.int i4)] [(.int (2 : Int32)), (.ref (n0 + ob0))])) rfl rfl (hb hby d3_43) _ ?_
    show Steps p.tables e below (T0.setTop (mkF m 44 #[.val (.ref (n0 + ob0)), .val (.int i1), .val (.int i2), .val (.int i3), .val (.int i4)] [(.int x10)])) _
    refine XS.iload X0.here hx rfl (hb hby d3_44) rfl ?_
    exact k
  by_cases hc11 : x10 = i4
  · rw [if_pos hc11] at hf
    obtain ⟨D12, hq12, hf⟩ := own_bind hf
    obtain ⟨T12, h12, L12, X12, e12, O12, N12, st12⟩ := stIW X0 hx hZ e0 O0 N0 hq12 rfl (g := (mkF m 52 #[.val (.ref (n0 + ob0)), .val (.int i1), .val (.int i2), .val (.int i3), .val (.int i4)] [(.int i3), (.int (2 : Int32)), (.ref (n0 + ob0))])) rfl rfl (hb hby d3_52)
    refine Gl.on (B := T12.setTop (mkF m 53 #[.val (.ref (n0 + ob0)), .val (.int i1), .val (.int i2), .val (.int i3), .val (.int i4)] [])) (fun t k => ?_) ?_
    · show Steps p.tables e below (T0.setTop (mkF m 46 #[.val (.ref (n0 + ob0)), .val (.int i1), .val (.int i2), .val (.int i3), .val (.int i4)] [(.int i4), (.int x10)])) _
      refine XS.icmpNo X0.here hx rfl (hb hby d3_46) rfl (teq hc11).2 ?_
      show Steps p.tables e below (T0.setTop (mkF m 49 #[.val (.ref (n0 + ob0)), .val (.int i1), .val (.int i2), .val (.int i3), .val (.int i4)] [])) _
      refine XS.aloadN X0.here hx rfl (hb hby d3_49) rfl rfl ?_
      show Steps p.tables e below (T0.setTop (mkF m 50 #[.val (.ref (n0 + ob0)), .val (.int i1), .val (.int i2), .val (.int i3), .val (.int i4)] [(.ref (n0 + ob0))])) _
      refine XS.iconst X0.here hx rfl (hb hby d3_50) ?_
      show Steps p.tables e below (T0.setTop (mkF m 51 #[.val (.ref (n0 + ob0)), .val (.int i1), .val (.int i2), .val (.int i3), .val (.int i4)] [(.int (2 : Int32)), (.ref (n0 + ob0))])) _
      refine XS.iloadN X0.here hx rfl (hb hby d3_51) rfl ?_
      show Steps p.tables e below (T0.setTop (mkF m 52 #[.val (.ref (n0 + ob0)), .val (.int i1), .val (.int i2), .val (.int i3), .val (.int i4)] [(.int i3), (.int (2 : Int32)), (.ref (n0 + ob0))])) _
      refine st12 _ ?_
      exact k
    exact bt3_53 hw hC X12 e12 O12 N12 (by omega) (by omega) hf
  · rw [if_neg hc11] at hf
    refine Gl.on (B := T0.setTop (mkF m 53 #[.val (.ref (n0 + ob0)), .val (.int i1), .val (.int i2), .val (.int i3), .val (.int i4)] [])) (fun t k => ?_) ?_
    · show Steps p.tables e below (T0.setTop (mkF m 46 #[.val (.ref (n0 + ob0)), .val (.int i1), .val (.int i2), .val (.int i3), .val (.int i4)] [(.int i4), (.int x10)])) _
      refine XS.icmpYes X0.here hx rfl (pc0 := 46) (pc' := 53) rfl (hb hby d3_46) rfl (feq hc11).2 (by decide) (by decide) ?_
      exact k
    exact bt3_53 hw hC X0 e0 O0 N0 (by omega) (by omega) hf
def b3_29 (D : Hp) (ob0 : Nat) (i3 : Int32) (i4 : Int32) : Option (Int32 × Hp) :=
  (rI D ob0 0 (1 : Int32)).bind fun x7 =>
  if x7 = i4 then ((wV D ob0 0 (1 : Int32) (.int i3)).bind fun D9 =>
  b3_41 D9 ob0 i3 i4) else (b3_41 D ob0 i3 i4)
set_option maxRecDepth 65536 in
set_option maxHeartbeats 40000000 in
theorem bt3_29 {p : Program} {l : Launch} {e : Env} {s : State} {m : MethodId} {args : Array Value} {below : List Frame} {meth : Method} {c : Code} {Z : State} {a0 : Array Value} {n0 : Nat} {D' : Hp} {r : Int32} {T0 : State} {locs : List Loc} {cells slots : Nat} {h0 : Heap} {D : Hp} {ob0 : Nat} {i1 : Int32} {i2 : Int32} {i3 : Int32} {i4 : Int32} (hw : ∀ d ∈ tables_1, d.before a0 Z = true) (hC : Cx p s m meth c Z method_2_code 5 (some .boolean) "com/example/sondage/sondage/graph/DisjointSetsFindPinLaw" "merge") (X0 : Stand p l e ({ frames := 0, cells := 0, slots := 0, locals := 0 } : Room) s m args below meth c T0 locs cells slots) (e0 : T0.heap = h0) (O0 : Ow Kt1 Z h0 n0 D) (N0 : Fr n0 locs) (hcc : cells ≤ 0) (hss : slots ≤ 0) (hf : b3_29 D ob0 i3 i4 = some (r, D')) : Gl p e below s 0 0 (Qw Kt1 Z n0 (some (.int r)) D') (T0.setTop (mkF m 29 #[.val (.ref (n0 + ob0)), .val (.int i1), .val (.int i2), .val (.int i3), .val (.int i4)] [])) := by
  obtain ⟨hx, hZ, hby, hml, hown, hnm, hret, hlk⟩ := id hC
  have hml : c.maxLocals = 5 := hml
  rw [b3_29] at hf
  obtain ⟨x7, hx7, hf⟩ := own_bind hf
  refine Gl.on (B := T0.setTop (mkF m 34 #[.val (.ref (n0 + ob0)), .val (.int i1), .val (.int i2), .val (.int i3), .val (.int i4)] [(.int i4), (.int x7)])) (fun t k => ?_) ?_
  · show Steps p.tables e below (T0.setTop (mkF m 29 #[.val (.ref (n0 + ob0)), .val (.int i1), .val (.int i2), .val (.int i3), .val (.int i4)] [])) _
    refine XS.aloadN X0.here hx rfl (hb hby d3_29) rfl rfl ?_
    show Steps p.tables e below (T0.setTop (mkF m 30 #[.val (.ref (n0 + ob0)), .val (.int i1), .val (.int i2), .val (.int i3), .val (.int i4)] [(.ref (n0 + ob0))])) _
    refine XS.iconst X0.here hx rfl (hb hby d3_30) ?_
    show Steps p.tables e below (T0.setTop (mkF m 31 #[.val (.ref (n0 + ob0)), .val (.int i1), .val (.int i2), .val (.int i3), .val (.int i4)] [(.int (1 : Int32)), (.ref (n0 + ob0))])) _
    refine ldW X0 hx hZ e0 O0 hx7 rfl (g := (mkF m 31 #[.val (.ref (n0 + ob0)), .val (.int i1), .val (.int i2), .val (.int i3), .val (.int i4)] [(.int (1 : Int32)), (.ref (n0 + ob0))])) rfl rfl (hb hby d3_31) _ ?_
    show Steps p.tables e below (T0.setTop (mkF m 32 #[.val (.ref (n0 + ob0)), .val (.int i1), .val (.int i2), .val (.int i3), .val (.int i4)] [(.int x7)])) _
    refine XS.iload X0.here hx rfl (hb hby d3_32) rfl ?_
    exact k
  by_cases hc8 : x7 = i4
  · rw [if_pos hc8] at hf
    obtain ⟨D9, hq9, hf⟩ := own_bind hf
    obtain ⟨T9, h9, L9, X9, e9, O9, N9, st9⟩ := stIW X0 hx hZ e0 O0 N0 hq9 rfl (g := (mkF m 40 #[.val (.ref (n0 + ob0)), .val (.int i1), .val (.int i2), .val (.int i3), .val (.int i4)] [(.int i3), (.int (1 : Int32)), (.ref (n0 + ob0))])) rfl rfl (hb hby d3_40)
    refine Gl.on (B := T9.setTop (mkF m 41 #[.val (.ref (n0 + ob0)), .val (.int i1), .val (.int i2), .val (.int i3), .val (.int i4)] [])) (fun t k => ?_) ?_
    · show Steps p.tables e below (T0.setTop (mkF m 34 #[.val (.ref (n0 + ob0)), .val (.int i1), .val (.int i2), .val (.int i3), .val (.int i4)] [(.int i4), (.int x7)])) _
      refine XS.icmpNo X0.here hx rfl (hb hby d3_34) rfl (teq hc8).2 ?_
      show Steps p.tables e below (T0.setTop (mkF m 37 #[.val (.ref (n0 + ob0)), .val (.int i1), .val (.int i2), .val (.int i3), .val (.int i4)] [])) _
      refine XS.aloadN X0.here hx rfl (hb hby d3_37) rfl rfl ?_
      show Steps p.tables e below (T0.setTop (mkF m 38 #[.val (.ref (n0 + ob0)), .val (.int i1), .val (.int i2), .val (.int i3), .val (.int i4)] [(.ref (n0 + ob0))])) _
      refine XS.iconst X0.here hx rfl (hb hby d3_38) ?_
      show Steps p.tables e below (T0.setTop (mkF m 39 #[.val (.ref (n0 + ob0)), .val (.int i1), .val (.int i2), .val (.int i3), .val (.int i4)] [(.int (1 : Int32)), (.ref (n0 + ob0))])) _
      refine XS.iloadN X0.here hx rfl (hb hby d3_39) rfl ?_
      show Steps p.tables e below (T0.setTop (mkF m 40 #[.val (.ref (n0 + ob0)), .val (.int i1), .val (.int i2), .val (.int i3), .val (.int i4)] [(.int i3), (.int (1 : Int32)), (.ref (n0 + ob0))])) _
      refine st9 _ ?_
      exact k
    exact bt3_41 hw hC X9 e9 O9 N9 (by omega) (by omega) hf
  · rw [if_neg hc8] at hf
    refine Gl.on (B := T0.setTop (mkF m 41 #[.val (.ref (n0 + ob0)), .val (.int i1), .val (.int i2), .val (.int i3), .val (.int i4)] [])) (fun t k => ?_) ?_
    · show Steps p.tables e below (T0.setTop (mkF m 34 #[.val (.ref (n0 + ob0)), .val (.int i1), .val (.int i2), .val (.int i3), .val (.int i4)] [(.int i4), (.int x7)])) _
      refine XS.icmpYes X0.here hx rfl (pc0 := 34) (pc' := 41) rfl (hb hby d3_34) rfl (feq hc8).2 (by decide) (by decide) ?_
      exact k
    exact bt3_41 hw hC X0 e0 O0 N0 (by omega) (by omega) hf
def f3 (D : Hp) (ob0 : Nat) (i1 : Int32) (i2 : Int32) : Option (Int32 × Hp) :=
  (rI D ob0 0 i1).bind fun x1 =>
  (rI D ob0 0 i2).bind fun x2 =>
  if x1 = x2 then (some ((0 : Int32), D)) else ((rI D ob0 0 (0 : Int32)).bind fun x4 =>
  if x4 = x2 then ((wV D ob0 0 (0 : Int32) (.int x1)).bind fun D6 =>
  b3_29 D6 ob0 x1 x2) else (b3_29 D ob0 x1 x2))
theorem ef_3 (m : MethodId) (n0 : Nat) (ob0 : Nat) (i1 : Int32) (i2 : Int32) : entryFrame m #[(.ref (n0 + ob0)), (.int i1), (.int i2)] 5 = mkF m 0 #[.val (.ref (n0 + ob0)), .val (.int i1), .val (.int i2), .unset, .unset] [] := by first | (simp [entryFrame, mkF, argsToLocals, Value.category]; done) | rfl
set_option maxRecDepth 65536 in
set_option maxHeartbeats 40000000 in
theorem ct3 {l : Launch} {Z : State} {a0 : Array Value} (hw : ∀ d ∈ tables_1, d.before a0 Z = true) {n0 : Nat} {D D' : Hp} {ob0 : Nat} {i1 : Int32} {i2 : Int32} {r : Int32} (hf : f3 D ob0 i1 i2 = some (r, D')) :
    Ct Kt1 l Z (⟨"com/example/sondage/sondage/graph/DisjointSetsFindPinLaw", "merge", "([III)Z"⟩ : MethodName) (.code (⟨"com/example/sondage/sondage/graph/DisjointSetsFindPinLaw", "merge", "([III)Z"⟩ : MethodName) method_2_code 5 (some .boolean)) ({ frames := 0, cells := 0, slots := 0, locals := 0 } : Room) n0 D #[(.ref (n0 + ob0)), (.int i1), (.int i2)] (some (.int r)) D' := by
  refine Ct.of (plainFor_of_name pn_3) ?_
  intro p e s m below meth c T0 h0 hC X0 e0 O0
  obtain ⟨hx, hZ, hby, hml, hown, hnm, hret, hlk⟩ := id hC
  have hml : c.maxLocals = 5 := hml
  have hown : s.vm.findClass "com/example/sondage/sondage/graph/DisjointSetsFindPinLaw" = some m.cls := hown
  have hnm : meth.name = "merge" := hnm
  have N0 := Fr.nil n0
  refine Gl.on (fun t k => castTop (ef_3 m n0 ob0 i1 i2) k) ?_
  rw [f3] at hf
  obtain ⟨x1, hx1, hf⟩ := own_bind hf
  obtain ⟨x2, hx2, hf⟩ := own_bind hf
  refine Gl.on (B := T0.setTop (mkF m 12 #[.val (.ref (n0 + ob0)), .val (.int i1), .val (.int i2), .val (.int x1), .val (.int x2)] [(.int x2), (.int x1)])) (fun t k => ?_) ?_
  · show Steps p.tables e below (T0.setTop (mkF m 0 #[.val (.ref (n0 + ob0)), .val (.int i1), .val (.int i2), .unset, .unset] [])) _
    refine XS.aloadN X0.here hx rfl (hb hby d3_0) rfl rfl ?_
    show Steps p.tables e below (T0.setTop (mkF m 1 #[.val (.ref (n0 + ob0)), .val (.int i1), .val (.int i2), .unset, .unset] [(.ref (n0 + ob0))])) _
    refine XS.iloadN X0.here hx rfl (hb hby d3_1) rfl ?_
    show Steps p.tables e below (T0.setTop (mkF m 2 #[.val (.ref (n0 + ob0)), .val (.int i1), .val (.int i2), .unset, .unset] [(.int i1), (.ref (n0 + ob0))])) _
    refine ldW X0 hx hZ e0 O0 hx1 rfl (g := (mkF m 2 #[.val (.ref (n0 + ob0)), .val (.int i1), .val (.int i2), .unset, .unset] [(.int i1), (.ref (n0 + ob0))])) rfl rfl (hb hby d3_2) _ ?_
    show Steps p.tables e below (T0.setTop (mkF m 3 #[.val (.ref (n0 + ob0)), .val (.int i1), .val (.int i2), .unset, .unset] [(.int x1)])) _
    refine XS.istoreN X0.here hx rfl (hb hby d3_3) rfl (l' := #[.val (.ref (n0 + ob0)), .val (.int i1), .val (.int i2), .val (.int x1), .unset]) rfl ?_
    show Steps p.tables e below (T0.setTop (mkF m 4 #[.val (.ref (n0 + ob0)), .val (.int i1), .val (.int i2), .val (.int x1), .unset] [])) _
    refine XS.aloadN X0.here hx rfl (hb hby d3_4) rfl rfl ?_
    show Steps p.tables e below (T0.setTop (mkF m 5 #[.val (.ref (n0 + ob0)), .val (.int i1), .val (.int i2), .val (.int x1), .unset] [(.ref (n0 + ob0))])) _
    refine XS.iloadN X0.here hx rfl (hb hby d3_5) rfl ?_
    show Steps p.tables e below (T0.setTop (mkF m 6 #[.val (.ref (n0 + ob0)), .val (.int i1), .val (.int i2), .val (.int x1), .unset] [(.int i2), (.ref (n0 + ob0))])) _
    refine ldW X0 hx hZ e0 O0 hx2 rfl (g := (mkF m 6 #[.val (.ref (n0 + ob0)), .val (.int i1), .val (.int i2), .val (.int x1), .unset] [(.int i2), (.ref (n0 + ob0))])) rfl rfl (hb hby d3_6) _ ?_
    show Steps p.tables e below (T0.setTop (mkF m 7 #[.val (.ref (n0 + ob0)), .val (.int i1), .val (.int i2), .val (.int x1), .unset] [(.int x2)])) _
    refine XS.istore X0.here hx rfl (hb hby d3_7) rfl (l' := #[.val (.ref (n0 + ob0)), .val (.int i1), .val (.int i2), .val (.int x1), .val (.int x2)]) rfl ?_
    show Steps p.tables e below (T0.setTop (mkF m 9 #[.val (.ref (n0 + ob0)), .val (.int i1), .val (.int i2), .val (.int x1), .val (.int x2)] [])) _
    refine XS.iloadN X0.here hx rfl (hb hby d3_9) rfl ?_
    show Steps p.tables e below (T0.setTop (mkF m 10 #[.val (.ref (n0 + ob0)), .val (.int i1), .val (.int i2), .val (.int x1), .val (.int x2)] [(.int x1)])) _
    refine XS.iload X0.here hx rfl (hb hby d3_10) rfl ?_
    exact k
  by_cases hc3 : x1 = x2
  · rw [if_pos hc3] at hf
    refine Gl.on (B := T0.setTop (mkF m 16 #[.val (.ref (n0 + ob0)), .val (.int i1), .val (.int i2), .val (.int x1), .val (.int x2)] [(.int (0 : Int32))])) (fun t k => ?_) ?_
    · show Steps p.tables e below (T0.setTop (mkF m 12 #[.val (.ref (n0 + ob0)), .val (.int i1), .val (.int i2), .val (.int x1), .val (.int x2)] [(.int x2), (.int x1)])) _
      refine XS.icmpNo X0.here hx rfl (hb hby d3_12) rfl (teq hc3).2 ?_
      show Steps p.tables e below (T0.setTop (mkF m 15 #[.val (.ref (n0 + ob0)), .val (.int i1), .val (.int i2), .val (.int x1), .val (.int x2)] [])) _
      refine XS.iconst X0.here hx rfl (hb hby d3_15) ?_
      exact k
    obtain ⟨rfl, rfl⟩ := own_inj hf
    exact Gl.outN X0 hx hlk (t := .boolean) hret (by simp) (hb hby d3_16) ⟨rfl, N0, by rw [e0]; exact O0⟩ (by show _ ≤ 0; omega) (by show _ ≤ 0; omega)
  · rw [if_neg hc3] at hf
    obtain ⟨x4, hx4, hf⟩ := own_bind hf
    refine Gl.on (B := T0.setTop (mkF m 22 #[.val (.ref (n0 + ob0)), .val (.int i1), .val (.int i2), .val (.int x1), .val (.int x2)] [(.int x2), (.int x4)])) (fun t k => ?_) ?_
    · show Steps p.tables e below (T0.setTop (mkF m 12 #[.val (.ref (n0 + ob0)), .val (.int i1), .val (.int i2), .val (.int x1), .val (.int x2)] [(.int x2), (.int x1)])) _
      refine XS.icmpYes X0.here hx rfl (pc0 := 12) (pc' := 17) rfl (hb hby d3_12) rfl (feq hc3).2 (by decide) (by decide) ?_
      show Steps p.tables e below (T0.setTop (mkF m 17 #[.val (.ref (n0 + ob0)), .val (.int i1), .val (.int i2), .val (.int x1), .val (.int x2)] [])) _
      refine XS.aloadN X0.here hx rfl (hb hby d3_17) rfl rfl ?_
      show Steps p.tables e below (T0.setTop (mkF m 18 #[.val (.ref (n0 + ob0)), .val (.int i1), .val (.int i2), .val (.int x1), .val (.int x2)] [(.ref (n0 + ob0))])) _
      refine XS.iconst X0.here hx rfl (hb hby d3_18) ?_
      show Steps p.tables e below (T0.setTop (mkF m 19 #[.val (.ref (n0 + ob0)), .val (.int i1), .val (.int i2), .val (.int x1), .val (.int x2)] [(.int (0 : Int32)), (.ref (n0 + ob0))])) _
      refine ldW X0 hx hZ e0 O0 hx4 rfl (g := (mkF m 19 #[.val (.ref (n0 + ob0)), .val (.int i1), .val (.int i2), .val (.int x1), .val (.int x2)] [(.int (0 : Int32)), (.ref (n0 + ob0))])) rfl rfl (hb hby d3_19) _ ?_
      show Steps p.tables e below (T0.setTop (mkF m 20 #[.val (.ref (n0 + ob0)), .val (.int i1), .val (.int i2), .val (.int x1), .val (.int x2)] [(.int x4)])) _
      refine XS.iload X0.here hx rfl (hb hby d3_20) rfl ?_
      exact k
    by_cases hc5 : x4 = x2
    · rw [if_pos hc5] at hf
      obtain ⟨D6, hq6, hf⟩ := own_bind hf
      obtain ⟨T6, h6, L6, X6, e6, O6, N6, st6⟩ := stIW X0 hx hZ e0 O0 N0 hq6 rfl (g := (mkF m 28 #[.val (.ref (n0 + ob0)), .val (.int i1), .val (.int i2), .val (.int x1), .val (.int x2)] [(.int x1), (.int (0 : Int32)), (.ref (n0 + ob0))])) rfl rfl (hb hby d3_28)
      refine Gl.on (B := T6.setTop (mkF m 29 #[.val (.ref (n0 + ob0)), .val (.int i1), .val (.int i2), .val (.int x1), .val (.int x2)] [])) (fun t k => ?_) ?_
      · show Steps p.tables e below (T0.setTop (mkF m 22 #[.val (.ref (n0 + ob0)), .val (.int i1), .val (.int i2), .val (.int x1), .val (.int x2)] [(.int x2), (.int x4)])) _
        refine XS.icmpNo X0.here hx rfl (hb hby d3_22) rfl (teq hc5).2 ?_
        show Steps p.tables e below (T0.setTop (mkF m 25 #[.val (.ref (n0 + ob0)), .val (.int i1), .val (.int i2), .val (.int x1), .val (.int x2)] [])) _
        refine XS.aloadN X0.here hx rfl (hb hby d3_25) rfl rfl ?_
        show Steps p.tables e below (T0.setTop (mkF m 26 #[.val (.ref (n0 + ob0)), .val (.int i1), .val (.int i2), .val (.int x1), .val (.int x2)] [(.ref (n0 + ob0))])) _
        refine XS.iconst X0.here hx rfl (hb hby d3_26) ?_
        show Steps p.tables e below (T0.setTop (mkF m 27 #[.val (.ref (n0 + ob0)), .val (.int i1), .val (.int i2), .val (.int x1), .val (.int x2)] [(.int (0 : Int32)), (.ref (n0 + ob0))])) _
        refine XS.iloadN X0.here hx rfl (hb hby d3_27) rfl ?_
        show Steps p.tables e below (T0.setTop (mkF m 28 #[.val (.ref (n0 + ob0)), .val (.int i1), .val (.int i2), .val (.int x1), .val (.int x2)] [(.int x1), (.int (0 : Int32)), (.ref (n0 + ob0))])) _
        refine st6 _ ?_
        exact k
      exact bt3_29 hw hC X6 e6 O6 N6 (by omega) (by omega) hf
    · rw [if_neg hc5] at hf
      refine Gl.on (B := T0.setTop (mkF m 29 #[.val (.ref (n0 + ob0)), .val (.int i1), .val (.int i2), .val (.int x1), .val (.int x2)] [])) (fun t k => ?_) ?_
      · show Steps p.tables e below (T0.setTop (mkF m 22 #[.val (.ref (n0 + ob0)), .val (.int i1), .val (.int i2), .val (.int x1), .val (.int x2)] [(.int x2), (.int x4)])) _
        refine XS.icmpYes X0.here hx rfl (pc0 := 22) (pc' := 29) rfl (hb hby d3_22) rfl (feq hc5).2 (by decide) (by decide) ?_
        exact k
      exact bt3_29 hw hC X0 e0 O0 N0 (by omega) (by omega) hf
theorem d5_0 : decode prog_28_method_2_code 0 = .ok (.iload_n 1, 1) := by decide +kernel
theorem d5_1 : decode prog_28_method_2_code 1 = .ok (.istore_n 2, 1) := by decide +kernel
theorem d5_2 : decode prog_28_method_2_code 2 = .ok (.aload_n 0, 1) := by decide +kernel
theorem d5_3 : decode prog_28_method_2_code 3 = .ok (.getfield 7, 3) := by decide +kernel
theorem d5_6 : decode prog_28_method_2_code 6 = .ok (.iload_n 2, 1) := by decide +kernel
theorem d5_7 : decode prog_28_method_2_code 7 = .ok (.iaload, 1) := by decide +kernel
theorem d5_8 : decode prog_28_method_2_code 8 = .ok (.iload_n 2, 1) := by decide +kernel
theorem d5_9 : decode prog_28_method_2_code 9 = .ok (.if_icmp .eq 30, 3) := by decide +kernel
theorem d5_12 : decode prog_28_method_2_code 12 = .ok (.aload_n 0, 1) := by decide +kernel
theorem d5_13 : decode prog_28_method_2_code 13 = .ok (.getfield 7, 3) := by decide +kernel
theorem d5_16 : decode prog_28_method_2_code 16 = .ok (.iload_n 2, 1) := by decide +kernel
theorem d5_17 : decode prog_28_method_2_code 17 = .ok (.aload_n 0, 1) := by decide +kernel
theorem d5_18 : decode prog_28_method_2_code 18 = .ok (.getfield 7, 3) := by decide +kernel
theorem d5_21 : decode prog_28_method_2_code 21 = .ok (.aload_n 0, 1) := by decide +kernel
theorem d5_22 : decode prog_28_method_2_code 22 = .ok (.getfield 7, 3) := by decide +kernel
theorem d5_25 : decode prog_28_method_2_code 25 = .ok (.iload_n 2, 1) := by decide +kernel
theorem d5_26 : decode prog_28_method_2_code 26 = .ok (.iaload, 1) := by decide +kernel
theorem d5_27 : decode prog_28_method_2_code 27 = .ok (.iaload, 1) := by decide +kernel
theorem d5_28 : decode prog_28_method_2_code 28 = .ok (.iastore, 1) := by decide +kernel
theorem d5_29 : decode prog_28_method_2_code 29 = .ok (.aload_n 0, 1) := by decide +kernel
theorem d5_30 : decode prog_28_method_2_code 30 = .ok (.getfield 7, 3) := by decide +kernel
theorem d5_33 : decode prog_28_method_2_code 33 = .ok (.iload_n 2, 1) := by decide +kernel
theorem d5_34 : decode prog_28_method_2_code 34 = .ok (.iaload, 1) := by decide +kernel
theorem d5_35 : decode prog_28_method_2_code 35 = .ok (.istore_n 2, 1) := by decide +kernel
theorem d5_36 : decode prog_28_method_2_code 36 = .ok (.goto (-34), 3) := by decide +kernel
theorem d5_39 : decode prog_28_method_2_code 39 = .ok (.iload_n 2, 1) := by decide +kernel
theorem d5_40 : decode prog_28_method_2_code 40 = .ok (.ireturn, 1) := by decide +kernel
theorem pn_5 : plainName "com/example/sondage/sondage/graph/DisjointSets" = true := by first | (simp [plainName, overriddenIn]; done) | decide +kernel
def b5_2 : Nat → Hp → Nat → Int32 → Option (Int32 × Hp)
  | 0, _, _, _ => none
  | fu + 1, D, ob0, i2 =>
  (gR D ob0 1 0).bind fun x1 =>
  (rI D x1 0 i2).bind fun x3 =>
  if x3 = i2 then (some (i2, D)) else ((gR D ob0 1 0).bind fun x5 =>
  (gR D ob0 1 0).bind fun x7 =>
  (gR D ob0 1 0).bind fun x9 =>
  (rI D x9 0 i2).bind fun x11 =>
  (rI D x7 0 x11).bind fun x12 =>
  (wV D x5 0 i2 (.int x12)).bind fun D13 =>
  (gR D13 ob0 1 0).bind fun x14 =>
  (rI D13 x14 0 i2).bind fun x16 =>
  b5_2 fu D13 ob0 x16)
set_option maxRecDepth 65536 in
set_option maxHeartbeats 40000000 in
theorem bt5_2 {p : Program} {l : Launch} {e : Env} {s : State} {m : MethodId} {args : Array Value} {below : List Frame} {meth : Method} {c : Code} {Z : State} {a0 : Array Value} {n0 : Nat} {D' : Hp} {r : Int32} (hw : ∀ d ∈ tables_1, d.before a0 Z = true) (hC : Cx p s m meth c Z prog_28_method_2_code 3 (some .int) "com/example/sondage/sondage/graph/DisjointSets" "find") (fu : Nat) : ∀ {T0 : State} {locs : List Loc} {cells slots : Nat} {h0 : Heap} {D : Hp} {ob0 : Nat} {i1 : Int32} {i2 : Int32}, (Stand p l e ({ frames := 0, cells := 0, slots := 0, locals := 0 } : Room) s m args below meth c T0 locs cells slots) → (T0.heap = h0) → (Ow Kt1 Z h0 n0 D) → (Fr n0 locs) → (cells ≤ 0) → (slots ≤ 0) → (b5_2 fu D ob0 i2 = some (r, D')) → Gl p e below s 0 0 (Qw Kt1 Z n0 (some (.int r)) D') (T0.setTop (mkF m 2 #[.val (.ref (n0 + ob0)), .val (.int i1), .val (.int i2)] [])) := by
  obtain ⟨hx, hZ, hby, hml, hown, hnm, hret, hlk⟩ := id hC
  have hml : c.maxLocals = 3 := hml
  induction fu with
  | zero => intro T0 locs cells slots h0 D ob0 i1 i2 X0 e0 O0 N0 hcc hss hf; cases hf
  | succ fu ih =>
    intro T0 locs cells slots h0 D ob0 i1 i2 X0 e0 O0 N0 hcc hss hf
    rw [b5_2] at hf
    obtain ⟨x1, hx1, hf⟩ := own_bind hf
    obtain ⟨T2, X2, e2, st2⟩ := getF X0 hx hZ hown (host := "") (Or.inl (hw _ (List.mem_of_getElem? (i := 10) rfl))) Via.refl e0 (O0.fld (gR_e hx1) rfl rfl) (g := (mkF m 3 #[.val (.ref (n0 + ob0)), .val (.int i1), .val (.int i2)] [(.ref (n0 + ob0))])) rfl rfl (hb hby d5_3)
    obtain ⟨x3, hx3, hf⟩ := own_bind hf
    refine Gl.on (B := T2.setTop (mkF m 9 #[.val (.ref (n0 + ob0)), .val (.int i1), .val (.int i2)] [(.int i2), (.int x3)])) (fun t k => ?_) ?_
    · show Steps p.tables e below (T0.setTop (mkF m 2 #[.val (.ref (n0 + ob0)), .val (.int i1), .val (.int i2)] [])) _
      refine XS.aloadN X0.here hx rfl (hb hby d5_2) rfl rfl ?_
      show Steps p.tables e below (T0.setTop (mkF m 3 #[.val (.ref (n0 + ob0)), .val (.int i1), .val (.int i2)] [(.ref (n0 + ob0))])) _
      refine st2 _ ?_
      show Steps p.tables e below (T2.setTop (mkF m 6 #[.val (.ref (n0 + ob0)), .val (.int i1), .val (.int i2)] [(.ref (n0 + x1))])) _
      refine XS.iloadN X2.here hx rfl (hb hby d5_6) rfl ?_
      show Steps p.tables e below (T2.setTop (mkF m 7 #[.val (.ref (n0 + ob0)), .val (.int i1), .val (.int i2)] [(.int i2), (.ref (n0 + x1))])) _
      refine ldW X2 hx hZ e2 O0 hx3 rfl (g := (mkF m 7 #[.val (.ref (n0 + ob0)), .val (.int i1), .val (.int i2)] [(.int i2), (.ref (n0 + x1))])) rfl rfl (hb hby d5_7) _ ?_
      show Steps p.tables e below (T2.setTop (mkF m 8 #[.val (.ref (n0 + ob0)), .val (.int i1), .val (.int i2)] [(.int x3)])) _
      refine XS.iloadN X2.here hx rfl (hb hby d5_8) rfl ?_
      exact k
    by_cases hc4 : x3 = i2
    · rw [if_pos hc4] at hf
      refine Gl.on (B := T2.setTop (mkF m 40 #[.val (.ref (n0 + ob0)), .val (.int i1), .val (.int i2)] [(.int i2)])) (fun t k => ?_) ?_
      · show Steps p.tables e below (T2.setTop (mkF m 9 #[.val (.ref (n0 + ob0)), .val (.int i1), .val (.int i2)] [(.int i2), (.int x3)])) _
        refine XS.icmpYes X2.here hx rfl (pc0 := 9) (pc' := 39) rfl (hb hby d5_9) rfl (teq hc4).1 (by decide) (by decide) ?_
        show Steps p.tables e below (T2.setTop (mkF m 39 #[.val (.ref (n0 + ob0)), .val (.int i1), .val (.int i2)] [])) _
        refine XS.iloadN X2.here hx rfl (hb hby d5_39) rfl ?_
        exact k
      obtain ⟨rfl, rfl⟩ := own_inj hf
      exact Gl.outI X2 hx hlk hret (hb hby d5_40) ⟨rfl, N0, by rw [e2]; exact O0⟩ (by show _ ≤ 0; omega) (by show _ ≤ 0; omega)
    · rw [if_neg hc4] at hf
      obtain ⟨x5, hx5, hf⟩ := own_bind hf
      obtain ⟨T6, X6, e6, st6⟩ := getF X2 hx hZ hown (host := "") (Or.inl (hw _ (List.mem_of_getElem? (i := 10) rfl))) Via.refl e2 (O0.fld (gR_e hx5) rfl rfl) (g := (mkF m 13 #[.val (.ref (n0 + ob0)), .val (.int i1), .val (.int i2)] [(.ref (n0 + ob0))])) rfl rfl (hb hby d5_13)
      obtain ⟨x7, hx7, hf⟩ := own_bind hf
      obtain ⟨T8, X8, e8, st8⟩ := getF X6 hx hZ hown (host := "") (Or.inl (hw _ (List.mem_of_getElem? (i := 10) rfl))) Via.refl e6 (O0.fld (gR_e hx7) rfl rfl) (g := (mkF m 18 #[.val (.ref (n0 + ob0)), .val (.int i1), .val (.int i2)] [(.ref (n0 + ob0)), (.int i2), (.ref (n0 + x5))])) rfl rfl (hb hby d5_18)
      obtain ⟨x9, hx9, hf⟩ := own_bind hf
      obtain ⟨T10, X10, e10, st10⟩ := getF X8 hx hZ hown (host := "") (Or.inl (hw _ (List.mem_of_getElem? (i := 10) rfl))) Via.refl e8 (O0.fld (gR_e hx9) rfl rfl) (g := (mkF m 22 #[.val (.ref (n0 + ob0)), .val (.int i1), .val (.int i2)] [(.ref (n0 + ob0)), (.ref (n0 + x7)), (.int i2), (.ref (n0 + x5))])) rfl rfl (hb hby d5_22)
      obtain ⟨x11, hx11, hf⟩ := own_bind hf
      obtain ⟨x12, hx12, hf⟩ := own_bind hf
      obtain ⟨D13, hq13, hf⟩ := own_bind hf
      obtain ⟨T13, h13, L13, X13, e13, O13, N13, st13⟩ := stIW X10 hx hZ e10 O0 N0 hq13 rfl (g := (mkF m 28 #[.val (.ref (n0 + ob0)), .val (.int i1), .val (.int i2)] [(.int x12), (.int i2), (.ref (n0 + x5))])) rfl rfl (hb hby d5_28)
      obtain ⟨x14, hx14, hf⟩ := own_bind hf
      obtain ⟨T15, X15, e15, st15⟩ := getF X13 hx hZ hown (host := "") (Or.inl (hw _ (List.mem_of_getElem? (i := 10) rfl))) Via.refl e13 (O13.fld (gR_e hx14) rfl rfl) (g := (mkF m 30 #[.val (.ref (n0 + ob0)), .val (.int i1), .val (.int i2)] [(.ref (n0 + ob0))])) rfl rfl (hb hby d5_30)
      obtain ⟨x16, hx16, hf⟩ := own_bind hf
      refine Gl.on (B := T15.setTop (mkF m 2 #[.val (.ref (n0 + ob0)), .val (.int i1), .val (.int x16)] [])) (fun t k => ?_) ?_
      · show Steps p.tables e below (T2.setTop (mkF m 9 #[.val (.ref (n0 + ob0)), .val (.int i1), .val (.int i2)] [(.int i2), (.int x3)])) _
        refine XS.icmpNo X2.here hx rfl (hb hby d5_9) rfl (feq hc4).1 ?_
        show Steps p.tables e below (T2.setTop (mkF m 12 #[.val (.ref (n0 + ob0)), .val (.int i1), .val (.int i2)] [])) _
        refine XS.aloadN X2.here hx rfl (hb hby d5_12) rfl rfl ?_
        show Steps p.tables e below (T2.setTop (mkF m 13 #[.val (.ref (n0 + ob0)), .val (.int i1), .val (.int i2)] [(.ref (n0 + ob0))])) _
        refine st6 _ ?_
        show Steps p.tables e below (T6.setTop (mkF m 16 #[.val (.ref (n0 + ob0)), .val (.int i1), .val (.int i2)] [(.ref (n0 + x5))])) _
        refine XS.iloadN X6.here hx rfl (hb hby d5_16) rfl ?_
        show Steps p.tables e below (T6.setTop (mkF m 17 #[.val (.ref (n0 + ob0)), .val (.int i1), .val (.int i2)] [(.int i2), (.ref (n0 + x5))])) _
        refine XS.aloadN X6.here hx rfl (hb hby d5_17) rfl rfl ?_
        show Steps p.tables e below (T6.setTop (mkF m 18 #[.val (.ref (n0 + ob0)), .val (.int i1), .val (.int i2)] [(.ref (n0 + ob0)), (.int i2), (.ref (n0 + x5))])) _
        refine st8 _ ?_
        show Steps p.tables e below (T8.setTop (mkF m 21 #[.val (.ref (n0 + ob0)), .val (.int i1), .val (.int i2)] [(.ref (n0 + x7)), (.int i2), (.ref (n0 + x5))])) _
        refine XS.aloadN X8.here hx rfl (hb hby d5_21) rfl rfl ?_
        show Steps p.tables e below (T8.setTop (mkF m 22 #[.val (.ref (n0 + ob0)), .val (.int i1), .val (.int i2)] [(.ref (n0 + ob0)), (.ref (n0 + x7)), (.int i2), (.ref (n0 + x5))])) _
        refine st10 _ ?_
        show Steps p.tables e below (T10.setTop (mkF m 25 #[.val (.ref (n0 + ob0)), .val (.int i1), .val (.int i2)] [(.ref (n0 + x9)), (.ref (n0 + x7)), (.int i2), (.ref (n0 + x5))])) _
        refine XS.iloadN X10.here hx rfl (hb hby d5_25) rfl ?_
        show Steps p.tables e below (T10.setTop (mkF m 26 #[.val (.ref (n0 + ob0)), .val (.int i1), .val (.int i2)] [(.int i2), (.ref (n0 + x9)), (.ref (n0 + x7)), (.int i2), (.ref (n0 + x5))])) _
        refine ldW X10 hx hZ e10 O0 hx11 rfl (g := (mkF m 26 #[.val (.ref (n0 + ob0)), .val (.int i1), .val (.int i2)] [(.int i2), (.ref (n0 + x9)), (.ref (n0 + x7)), (.int i2), (.ref (n0 + x5))])) rfl rfl (hb hby d5_26) _ ?_
        show Steps p.tables e below (T10.setTop (mkF m 27 #[.val (.ref (n0 + ob0)), .val (.int i1), .val (.int i2)] [(.int x11), (.ref (n0 + x7)), (.int i2), (.ref (n0 + x5))])) _
        refine ldW X10 hx hZ e10 O0 hx12 rfl (g := (mkF m 27 #[.val (.ref (n0 + ob0)), .val (.int i1), .val (.int i2)] [(.int x11), (.ref (n0 + x7)), (.int i2), (.ref (n0 + x5))])) rfl rfl (hb hby d5_27) _ ?_
        show Steps p.tables e below (T10.setTop (mkF m 28 #[.val (.ref (n0 + ob0)), .val (.int i1), .val (.int i2)] [(.int x12), (.int i2), (.ref (n0 + x5))])) _
        refine st13 _ ?_
        show Steps p.tables e below (T13.setTop (mkF m 29 #[.val (.ref (n0 + ob0)), .val (.int i1), .val (.int i2)] [])) _
        refine XS.aloadN X13.here hx rfl (hb hby d5_29) rfl rfl ?_
        show Steps p.tables e below (T13.setTop (mkF m 30 #[.val (.ref (n0 + ob0)), .val (.int i1), .val (.int i2)] [(.ref (n0 + ob0))])) _
        refine st15 _ ?_
        show Steps p.tables e below (T15.setTop (mkF m 33 #[.val (.ref (n0 + ob0)), .val (.int i1), .val (.int i2)] [(.ref (n0 + x14))])) _
        refine XS.iloadN X15.here hx rfl (hb hby d5_33) rfl ?_
        show Steps p.tables e below (T15.setTop (mkF m 34 #[.val (.ref (n0 + ob0)), .val (.int i1), .val (.int i2)] [(.int i2), (.ref (n0 + x14))])) _
        refine ldW X15 hx hZ e15 O13 hx16 rfl (g := (mkF m 34 #[.val (.ref (n0 + ob0)), .val (.int i1), .val (.int i2)] [(.int i2), (.ref (n0 + x14))])) rfl rfl (hb hby d5_34) _ ?_
        show Steps p.tables e below (T15.setTop (mkF m 35 #[.val (.ref (n0 + ob0)), .val (.int i1), .val (.int i2)] [(.int x16)])) _
        refine XS.istoreN X15.here hx rfl (hb hby d5_35) rfl (l' := #[.val (.ref (n0 + ob0)), .val (.int i1), .val (.int x16)]) rfl ?_
        show Steps p.tables e below (T15.setTop (mkF m 36 #[.val (.ref (n0 + ob0)), .val (.int i1), .val (.int x16)] [])) _
        refine XS.goto X15.here hx rfl (pc0 := 36) (pc' := 2) rfl (hb hby d5_36) (by decide) (by decide) ?_
        exact k
      exact ih X15 e15 O13 N13 (by omega) (by omega) hf
def f5 (D : Hp) (ob0 : Nat) (i1 : Int32) : Option (Int32 × Hp) :=
  b5_2 12 D ob0 i1
theorem ef_5 (m : MethodId) (n0 : Nat) (ob0 : Nat) (i1 : Int32) : entryFrame m #[(.ref (n0 + ob0)), (.int i1)] 3 = mkF m 0 #[.val (.ref (n0 + ob0)), .val (.int i1), .unset] [] := by first | (simp [entryFrame, mkF, argsToLocals, Value.category]; done) | rfl
set_option maxRecDepth 65536 in
set_option maxHeartbeats 40000000 in
theorem ct5 {l : Launch} {Z : State} {a0 : Array Value} (hw : ∀ d ∈ tables_1, d.before a0 Z = true) {n0 : Nat} {D D' : Hp} {ob0 : Nat} {i1 : Int32} {r : Int32} (hf : f5 D ob0 i1 = some (r, D')) :
    Ct Kt1 l Z (⟨"com/example/sondage/sondage/graph/DisjointSets", "find", "(I)I"⟩ : MethodName) (.code (⟨"com/example/sondage/sondage/graph/DisjointSets", "find", "(I)I"⟩ : MethodName) prog_28_method_2_code 3 (some .int)) ({ frames := 0, cells := 0, slots := 0, locals := 0 } : Room) n0 D #[(.ref (n0 + ob0)), (.int i1)] (some (.int r)) D' := by
  refine Ct.of (plainFor_of_name pn_5) ?_
  intro p e s m below meth c T0 h0 hC X0 e0 O0
  obtain ⟨hx, hZ, hby, hml, hown, hnm, hret, hlk⟩ := id hC
  have hml : c.maxLocals = 3 := hml
  have hown : s.vm.findClass "com/example/sondage/sondage/graph/DisjointSets" = some m.cls := hown
  have hnm : meth.name = "find" := hnm
  have N0 := Fr.nil n0
  refine Gl.on (fun t k => castTop (ef_5 m n0 ob0 i1) k) ?_
  rw [f5] at hf
  refine Gl.on (B := T0.setTop (mkF m 2 #[.val (.ref (n0 + ob0)), .val (.int i1), .val (.int i1)] [])) (fun t k => ?_) ?_
  · show Steps p.tables e below (T0.setTop (mkF m 0 #[.val (.ref (n0 + ob0)), .val (.int i1), .unset] [])) _
    refine XS.iloadN X0.here hx rfl (hb hby d5_0) rfl ?_
    show Steps p.tables e below (T0.setTop (mkF m 1 #[.val (.ref (n0 + ob0)), .val (.int i1), .unset] [(.int i1)])) _
    refine XS.istoreN X0.here hx rfl (hb hby d5_1) rfl (l' := #[.val (.ref (n0 + ob0)), .val (.int i1), .val (.int i1)]) rfl ?_
    exact k
  exact bt5_2 hw hC 12 X0 e0 O0 N0 (by omega) (by omega) hf
theorem pd_0 : parseMethodDescriptor "(I)I" = some ⟨[.int], some .int⟩ := by decide +kernel
theorem d4_0 : decode prog_28_method_3_code 0 = .ok (.aload_n 0, 1) := by decide +kernel
theorem d4_1 : decode prog_28_method_3_code 1 = .ok (.iload_n 1, 1) := by decide +kernel
theorem d4_2 : decode prog_28_method_3_code 2 = .ok (.invokevirtual 16, 3) := by decide +kernel
theorem d4_5 : decode prog_28_method_3_code 5 = .ok (.istore_n 3, 1) := by decide +kernel
theorem d4_6 : decode prog_28_method_3_code 6 = .ok (.aload_n 0, 1) := by decide +kernel
theorem d4_7 : decode prog_28_method_3_code 7 = .ok (.iload_n 2, 1) := by decide +kernel
theorem d4_8 : decode prog_28_method_3_code 8 = .ok (.invokevirtual 16, 3) := by decide +kernel
theorem d4_11 : decode prog_28_method_3_code 11 = .ok (.istore 4, 2) := by decide +kernel
theorem d4_13 : decode prog_28_method_3_code 13 = .ok (.iload_n 3, 1) := by decide +kernel
theorem d4_14 : decode prog_28_method_3_code 14 = .ok (.iload 4, 2) := by decide +kernel
theorem d4_16 : decode prog_28_method_3_code 16 = .ok (.if_icmp .ne 5, 3) := by decide +kernel
theorem d4_19 : decode prog_28_method_3_code 19 = .ok (.iconst 0, 1) := by decide +kernel
theorem d4_20 : decode prog_28_method_3_code 20 = .ok (.ireturn, 1) := by decide +kernel
theorem d4_21 : decode prog_28_method_3_code 21 = .ok (.aload_n 0, 1) := by decide +kernel
theorem d4_22 : decode prog_28_method_3_code 22 = .ok (.getfield 13, 3) := by decide +kernel
theorem d4_25 : decode prog_28_method_3_code 25 = .ok (.iload_n 3, 1) := by decide +kernel
theorem d4_26 : decode prog_28_method_3_code 26 = .ok (.iaload, 1) := by decide +kernel
theorem d4_27 : decode prog_28_method_3_code 27 = .ok (.aload_n 0, 1) := by decide +kernel
theorem d4_28 : decode prog_28_method_3_code 28 = .ok (.getfield 13, 3) := by decide +kernel
theorem d4_31 : decode prog_28_method_3_code 31 = .ok (.iload 4, 2) := by decide +kernel
theorem d4_33 : decode prog_28_method_3_code 33 = .ok (.iaload, 1) := by decide +kernel
theorem d4_34 : decode prog_28_method_3_code 34 = .ok (.if_icmp .ge 13, 3) := by decide +kernel
theorem d4_37 : decode prog_28_method_3_code 37 = .ok (.iload_n 3, 1) := by decide +kernel
theorem d4_38 : decode prog_28_method_3_code 38 = .ok (.istore 5, 2) := by decide +kernel
theorem d4_40 : decode prog_28_method_3_code 40 = .ok (.iload 4, 2) := by decide +kernel
theorem d4_42 : decode prog_28_method_3_code 42 = .ok (.istore_n 3, 1) := by decide +kernel
theorem d4_43 : decode prog_28_method_3_code 43 = .ok (.iload 5, 2) := by decide +kernel
theorem d4_45 : decode prog_28_method_3_code 45 = .ok (.istore 4, 2) := by decide +kernel
theorem d4_47 : decode prog_28_method_3_code 47 = .ok (.aload_n 0, 1) := by decide +kernel
theorem d4_48 : decode prog_28_method_3_code 48 = .ok (.getfield 7, 3) := by decide +kernel
theorem d4_51 : decode prog_28_method_3_code 51 = .ok (.iload 4, 2) := by decide +kernel
theorem d4_53 : decode prog_28_method_3_code 53 = .ok (.iload_n 3, 1) := by decide +kernel
theorem d4_54 : decode prog_28_method_3_code 54 = .ok (.iastore, 1) := by decide +kernel
theorem d4_55 : decode prog_28_method_3_code 55 = .ok (.aload_n 0, 1) := by decide +kernel
theorem d4_56 : decode prog_28_method_3_code 56 = .ok (.getfield 13, 3) := by decide +kernel
theorem d4_59 : decode prog_28_method_3_code 59 = .ok (.iload_n 3, 1) := by decide +kernel
theorem d4_60 : decode prog_28_method_3_code 60 = .ok (.dup2, 1) := by decide +kernel
theorem d4_61 : decode prog_28_method_3_code 61 = .ok (.iaload, 1) := by decide +kernel
theorem d4_62 : decode prog_28_method_3_code 62 = .ok (.aload_n 0, 1) := by decide +kernel
theorem d4_63 : decode prog_28_method_3_code 63 = .ok (.getfield 13, 3) := by decide +kernel
theorem d4_66 : decode prog_28_method_3_code 66 = .ok (.iload 4, 2) := by decide +kernel
theorem d4_68 : decode prog_28_method_3_code 68 = .ok (.iaload, 1) := by decide +kernel
theorem d4_69 : decode prog_28_method_3_code 69 = .ok (.iadd, 1) := by decide +kernel
theorem d4_70 : decode prog_28_method_3_code 70 = .ok (.iastore, 1) := by decide +kernel
theorem d4_71 : decode prog_28_method_3_code 71 = .ok (.iconst 1, 1) := by decide +kernel
theorem d4_72 : decode prog_28_method_3_code 72 = .ok (.ireturn, 1) := by decide +kernel
theorem pn_4 : plainName "com/example/sondage/sondage/graph/DisjointSets" = true := by first | (simp [plainName, overriddenIn]; done) | decide +kernel
def b4_47 (D : Hp) (ob0 : Nat) (i3 : Int32) (i4 : Int32) : Option (Int32 × Hp) :=
  (gR D ob0 1 0).bind fun x15 =>
  (wV D x15 0 i4 (.int i3)).bind fun D17 =>
  (gR D17 ob0 1 1).bind fun x18 =>
  (rI D17 x18 0 i3).bind fun x20 =>
  (gR D17 ob0 1 1).bind fun x21 =>
  (rI D17 x21 0 i4).bind fun x23 =>
  (wV D17 x18 0 i3 (.int (x20 + x23))).bind fun D24 =>
  some ((1 : Int32), D24)
set_option maxRecDepth 65536 in
set_option maxHeartbeats 40000000 in
theorem bt4_47 {p : Program} {l : Launch} {e : Env} {s : State} {m : MethodId} {args : Array Value} {below : List Frame} {meth : Method} {c : Code} {Z : State} {a0 : Array Value} {n0 : Nat} {D' : Hp} {r : Int32} {T0 : State} {locs : List Loc} {cells slots : Nat} {h0 : Heap} {D : Hp} {ob0 : Nat} {i1 : Int32} {i2 : Int32} {i3 : Int32} {i4 : Int32} {s5 : Slot} (hw : ∀ d ∈ tables_1, d.before a0 Z = true) (hC : Cx p s m meth c Z prog_28_method_3_code 6 (some .boolean) "com/example/sondage/sondage/graph/DisjointSets" "union") (X0 : Stand p l e ({ frames := 1, cells := 0, slots := 0, locals := 14 } : Room) s m args below meth c T0 locs cells slots) (e0 : T0.heap = h0) (O0 : Ow Kt1 Z h0 n0 D) (N0 : Fr n0 locs) (hcc : cells ≤ 0) (hss : slots ≤ 0) (hs5 : One s5) (hf : b4_47 D ob0 i3 i4 = some (r, D')) : Gl p e below s 0 0 (Qw Kt1 Z n0 (some (.int r)) D') (T0.setTop (mkF m 47 #[.val (.ref (n0 + ob0)), .val (.int i1), .val (.int i2), .val (.int i3), .val (.int i4), s5] [])) := by
  obtain ⟨hx, hZ, hby, hml, hown, hnm, hret, hlk⟩ := id hC
  have hml : c.maxLocals = 6 := hml
  rw [b4_47] at hf
  obtain ⟨x15, hx15, hf⟩ := own_bind hf
  obtain ⟨T16, X16, e16, st16⟩ := getF X0 hx hZ hown (host := "") (Or.inl (hw _ (List.mem_of_getElem? (i := 10) rfl))) Via.refl e0 (O0.fld (gR_e hx15) rfl rfl) (g := (mkF m 48 #[.val (.ref (n0 + ob0)), .val (.int i1), .val (.int i2), .val (.int i3), .val (.int i4), s5] [(.ref (n0 + ob0))])) rfl rfl (hb hby d4_48)
  obtain ⟨D17, hq17, hf⟩ := own_bind hf
  obtain ⟨T17, h17, L17, X17, e17, O17, N17, st17⟩ := stIW X16 hx hZ e16 O0 N0 hq17 rfl (g := (mkF m 54 #[.val (.ref (n0 + ob0)), .val (.int i1), .val (.int i2), .val (.int i3), .val (.int i4), s5] [(.int i3), (.int i4), (.ref (n0 + x15))])) rfl rfl (hb hby d4_54)
  obtain ⟨x18, hx18, hf⟩ := own_bind hf
  obtain ⟨T19, X19, e19, st19⟩ := getF X17 hx hZ hown (host := "") (Or.inl (hw _ (List.mem_of_getElem? (i := 12) rfl))) Via.refl e17 (O17.fld (gR_e hx18) rfl rfl) (g := (mkF m 56 #[.val (.ref (n0 + ob0)), .val (.int i1), .val (.int i2), .val (.int i3), .val (.int i4), s5] [(.ref (n0 + ob0))])) rfl rfl (hb hby d4_56)
  obtain ⟨x20, hx20, hf⟩ := own_bind hf
  obtain ⟨x21, hx21, hf⟩ := own_bind hf
  obtain ⟨T22, X22, e22, st22⟩ := getF X19 hx hZ hown (host := "") (Or.inl (hw _ (List.mem_of_getElem? (i := 12) rfl))) Via.refl e19 (O17.fld (gR_e hx21) rfl rfl) (g := (mkF m 63 #[.val (.ref (n0 + ob0)), .val (.int i1), .val (.int i2), .val (.int i3), .val (.int i4), s5] [(.ref (n0 + ob0)), (.int x20), (.int i3), (.ref (n0 + x18))])) rfl rfl (hb hby d4_63)
  obtain ⟨x23, hx23, hf⟩ := own_bind hf
  obtain ⟨D24, hq24, hf⟩ := own_bind hf
  obtain ⟨T24, h24, L24, X24, e24, O24, N24, st24⟩ := stIW X22 hx hZ e22 O17 N17 hq24 rfl (g := (mkF m 70 #[.val (.ref (n0 + ob0)), .val (.int i1), .val (.int i2), .val (.int i3), .val (.int i4), s5] [(.int (x20 + x23)), (.int i3), (.ref (n0 + x18))])) rfl rfl (hb hby d4_70)
  refine Gl.on (B := T24.setTop (mkF m 72 #[.val (.ref (n0 + ob0)), .val (.int i1), .val (.int i2), .val (.int i3), .val (.int i4), s5] [(.int (1 : Int32))])) (fun t k => ?_) ?_
  · show Steps p.tables e below (T0.setTop (mkF m 47 #[.val (.ref (n0 + ob0)), .val (.int i1), .val (.int i2), .val (.int i3), .val (.int i4), s5] [])) _
    refine XS.aloadN X0.here hx rfl (hb hby d4_47) rfl rfl ?_
    show Steps p.tables e below (T0.setTop (mkF m 48 #[.val (.ref (n0 + ob0)), .val (.int i1), .val (.int i2), .val (.int i3), .val (.int i4), s5] [(.ref (n0 + ob0))])) _
    refine st16 _ ?_
    show Steps p.tables e below (T16.setTop (mkF m 51 #[.val (.ref (n0 + ob0)), .val (.int i1), .val (.int i2), .val (.int i3), .val (.int i4), s5] [(.ref (n0 + x15))])) _
    refine XS.iload X16.here hx rfl (hb hby d4_51) rfl ?_
    show Steps p.tables e below (T16.setTop (mkF m 53 #[.val (.ref (n0 + ob0)), .val (.int i1), .val (.int i2), .val (.int i3), .val (.int i4), s5] [(.int i4), (.ref (n0 + x15))])) _
    refine XS.iloadN X16.here hx rfl (hb hby d4_53) rfl ?_
    show Steps p.tables e below (T16.setTop (mkF m 54 #[.val (.ref (n0 + ob0)), .val (.int i1), .val (.int i2), .val (.int i3), .val (.int i4), s5] [(.int i3), (.int i4), (.ref (n0 + x15))])) _
    refine st17 _ ?_
    show Steps p.tables e below (T17.setTop (mkF m 55 #[.val (.ref (n0 + ob0)), .val (.int i1), .val (.int i2), .val (.int i3), .val (.int i4), s5] [])) _
    refine XS.aloadN X17.here hx rfl (hb hby d4_55) rfl rfl ?_
    show Steps p.tables e below (T17.setTop (mkF m 56 #[.val (.ref (n0 + ob0)), .val (.int i1), .val (.int i2), .val (.int i3), .val (.int i4), s5] [(.ref (n0 + ob0))])) _
    refine st19 _ ?_
    show Steps p.tables e below (T19.setTop (mkF m 59 #[.val (.ref (n0 + ob0)), .val (.int i1), .val (.int i2), .val (.int i3), .val (.int i4), s5] [(.ref (n0 + x18))])) _
    refine XS.iloadN X19.here hx rfl (hb hby d4_59) rfl ?_
    show Steps p.tables e below (T19.setTop (mkF m 60 #[.val (.ref (n0 + ob0)), .val (.int i1), .val (.int i2), .val (.int i3), .val (.int i4), s5] [(.int i3), (.ref (n0 + x18))])) _
    refine XT.dup2 X19.here hx rfl (hb hby d4_60) rfl rfl rfl ?_
    show Steps p.tables e below (T19.setTop (mkF m 61 #[.val (.ref (n0 + ob0)), .val (.int i1), .val (.int i2), .val (.int i3), .val (.int i4), s5] [(.int i3), (.ref (n0 + x18)), (.int i3), (.ref (n0 + x18))])) _
    refine ldW X19 hx hZ e19 O17 hx20 rfl (g := (mkF m 61 #[.val (.ref (n0 + ob0)), .val (.int i1), .val (.int i2), .val (.int i3), .val (.int i4), s5] [(.int i3), (.ref (n0 + x18)), (.int i3), (.ref (n0 + x18))])) rfl rfl (hb hby d4_61) _ ?_
    show Steps p.tables e below (T19.setTop (mkF m 62 #[.val (.ref (n0 + ob0)), .val (.int i1), .val (.int i2), .val (.int i3), .val (.int i4), s5] [(.int x20), (.int i3), (.ref (n0 + x18))])) _
    refine XS.aloadN X19.here hx rfl (hb hby d4_62) rfl rfl ?_
    show Steps p.tables e below (T19.setTop (mkF m 63 #[.val (.ref (n0 + ob0)), .val (.int i1), .val (.int i2), .val (.int i3), .val (.int i4), s5] [(.ref (n0 + ob0)), (.int x20), (.int i3), (.ref (n0 + x18))])) _
    refine st22 _ ?_
    show Steps p.tables e below (T22.setTop (mkF m 66 #[.val (.ref (n0 + ob0)), .val (.int i1), .val (.int i2), .val (.int i3), .val (.int i4), s5] [(.ref (n0 + x21)), (.int x20), (.int i3), (.ref (n0 + x18))])) _
    refine XS.iload X22.here hx rfl (hb hby d4_66) rfl ?_
    show Steps p.tables e below (T22.setTop (mkF m 68 #[.val (.ref (n0 + ob0)), .val (.int i1), .val (.int i2), .val (.int i3), .val (.int i4), s5] [(.int i4), (.ref (n0 + x21)), (.int x20), (.int i3), (.ref (n0 + x18))])) _
    refine ldW X22 hx hZ e22 O17 hx23 rfl (g := (mkF m 68 #[.val (.ref (n0 + ob0)), .val (.int i1), .val (.int i2), .val (.int i3), .val (.int i4), s5] [(.int i4), (.ref (n0 + x21)), (.int x20), (.int i3), (.ref (n0 + x18))])) rfl rfl (hb hby d4_68) _ ?_
    show Steps p.tables e below (T22.setTop (mkF m 69 #[.val (.ref (n0 + ob0)), .val (.int i1), .val (.int i2), .val (.int i3), .val (.int i4), s5] [(.int x23), (.int x20), (.int i3), (.ref (n0 + x18))])) _
    refine XS.iadd X22.here hx rfl (hb hby d4_69) rfl ?_
    show Steps p.tables e below (T22.setTop (mkF m 70 #[.val (.ref (n0 + ob0)), .val (.int i1), .val (.int i2), .val (.int i3), .val (.int i4), s5] [(.int (x20 + x23)), (.int i3), (.ref (n0 + x18))])) _
    refine st24 _ ?_
    show Steps p.tables e below (T24.setTop (mkF m 71 #[.val (.ref (n0 + ob0)), .val (.int i1), .val (.int i2), .val (.int i3), .val (.int i4), s5] [])) _
    refine XS.iconst X24.here hx rfl (hb hby d4_71) ?_
    exact k
  obtain ⟨rfl, rfl⟩ := own_inj hf
  exact Gl.outN X24 hx hlk (t := .boolean) hret (by simp) (hb hby d4_72) ⟨rfl, N24, by rw [e24]; exact O24⟩ (by show _ ≤ 0; omega) (by show _ ≤ 0; omega)
def f4 (D : Hp) (ob0 : Nat) (i1 : Int32) (i2 : Int32) : Option (Int32 × Hp) :=
  (ck D ob0 1).bind fun u2 => (f5 D ob0 i1).bind fun q1 => own_let q1.1 fun x3 => own_let q1.2 fun D1 =>
  (ck D1 ob0 1).bind fun u5 => (f5 D1 ob0 i2).bind fun q4 => own_let q4.1 fun x6 => own_let q4.2 fun D4 =>
  if x3 = x6 then (some ((0 : Int32), D4)) else ((gR D4 ob0 1 1).bind fun x8 =>
  (rI D4 x8 0 x3).bind fun x10 =>
  (gR D4 ob0 1 1).bind fun x11 =>
  (rI D4 x11 0 x6).bind fun x13 =>
  if x10 < x13 then (b4_47 D4 ob0 x6 x3) else (b4_47 D4 ob0 x3 x6))
theorem ef_4 (m : MethodId) (n0 : Nat) (ob0 : Nat) (i1 : Int32) (i2 : Int32) : entryFrame m #[(.ref (n0 + ob0)), (.int i1), (.int i2)] 6 = mkF m 0 #[.val (.ref (n0 + ob0)), .val (.int i1), .val (.int i2), .unset, .unset, .unset] [] := by first | (simp [entryFrame, mkF, argsToLocals, Value.category]; done) | rfl
set_option maxRecDepth 65536 in
set_option maxHeartbeats 40000000 in
theorem ct4 {l : Launch} {Z : State} {a0 : Array Value} (hw : ∀ d ∈ tables_1, d.before a0 Z = true) {n0 : Nat} {D D' : Hp} {ob0 : Nat} {i1 : Int32} {i2 : Int32} {r : Int32} (hf : f4 D ob0 i1 i2 = some (r, D')) :
    Ct Kt1 l Z (⟨"com/example/sondage/sondage/graph/DisjointSets", "union", "(II)Z"⟩ : MethodName) (.code (⟨"com/example/sondage/sondage/graph/DisjointSets", "union", "(II)Z"⟩ : MethodName) prog_28_method_3_code 6 (some .boolean)) ({ frames := 1, cells := 0, slots := 0, locals := 14 } : Room) n0 D #[(.ref (n0 + ob0)), (.int i1), (.int i2)] (some (.int r)) D' := by
  refine Ct.of (plainFor_of_name pn_4) ?_
  intro p e s m below meth c T0 h0 hC X0 e0 O0
  obtain ⟨hx, hZ, hby, hml, hown, hnm, hret, hlk⟩ := id hC
  have hml : c.maxLocals = 6 := hml
  have hown : s.vm.findClass "com/example/sondage/sondage/graph/DisjointSets" = some m.cls := hown
  have hnm : meth.name = "union" := hnm
  have N0 := Fr.nil n0
  refine Gl.on (fun t k => castTop (ef_4 m n0 ob0 i1 i2) k) ?_
  rw [f4] at hf
  obtain ⟨u2, hk1, hf⟩ := own_bind hf
  obtain ⟨⟨x3, D1⟩, hq1, hf⟩ := own_bind hf
  obtain ⟨_, rfl, hf⟩ := own_letE hf
  obtain ⟨_, rfl, hf⟩ := own_letE hf
  obtain ⟨T1, h1, L1, X1, e1, O1, N1, st1⟩ := callVW X0 hx hZ (y := (⟨"com/example/sondage/sondage/graph/DisjointSets", "find", "(I)I"⟩ : MethodName)) hown (hw _ (List.mem_of_getElem? (i := 23) rfl)) (hw _ (List.mem_of_getElem? (i := 24) rfl)) (hw _ (List.mem_of_getElem? (i := 26) rfl)) (hw _ (List.mem_of_getElem? (i := 25) rfl)) (hw _ (List.mem_of_getElem? (i := 2) rfl)) (hw _ (List.mem_of_getElem? (i := 27) rfl)) (by decide) e0 O0 N0 hk1 rfl (as' := [(.int i1)]) (ct5 hw hq1) (W := 0) (kc := 0) (ks := 0) rfl rfl (by decide) (by decide) (g := (mkF m 2 #[.val (.ref (n0 + ob0)), .val (.int i1), .val (.int i2), .unset, .unset, .unset] [(.int i1), (.ref (n0 + ob0))])) rfl (by rw [hml]; rfl) (rest := []) (lenOf pd_0 rfl) rfl (by show 2 * 0 + _ ≤ _; exact Nat.le_of_eq rfl) (hb hby d4_2) (by show _ + 0 ≤ 0; omega) (by show _ + 0 ≤ 0; omega)
  obtain ⟨u5, hk4, hf⟩ := own_bind hf
  obtain ⟨⟨x6, D4⟩, hq4, hf⟩ := own_bind hf
  obtain ⟨_, rfl, hf⟩ := own_letE hf
  obtain ⟨_, rfl, hf⟩ := own_letE hf
  obtain ⟨T4, h4, L4, X4, e4, O4, N4, st4⟩ := callVW X1 hx hZ (y := (⟨"com/example/sondage/sondage/graph/DisjointSets", "find", "(I)I"⟩ : MethodName)) hown (hw _ (List.mem_of_getElem? (i := 23) rfl)) (hw _ (List.mem_of_getElem? (i := 24) rfl)) (hw _ (List.mem_of_getElem? (i := 26) rfl)) (hw _ (List.mem_of_getElem? (i := 25) rfl)) (hw _ (List.mem_of_getElem? (i := 2) rfl)) (hw _ (List.mem_of_getElem? (i := 27) rfl)) (by decide) e1 O1 N1 hk4 rfl (as' := [(.int i2)]) (ct5 hw hq4) (W := 0) (kc := 0) (ks := 0) rfl rfl (by decide) (by decide) (g := (mkF m 8 #[.val (.ref (n0 + ob0)), .val (.int i1), .val (.int i2), .val (.int x3), .unset, .unset] [(.int i2), (.ref (n0 + ob0))])) rfl (by rw [hml]; rfl) (rest := []) (lenOf pd_0 rfl) rfl (by show 2 * 0 + _ ≤ _; exact Nat.le_of_eq rfl) (hb hby d4_8) (by show _ + 0 ≤ 0; omega) (by show _ + 0 ≤ 0; omega)
  refine Gl.on (B := T4.setTop (mkF m 16 #[.val (.ref (n0 + ob0)), .val (.int i1), .val (.int i2), .val (.int x3), .val (.int x6), .unset] [(.int x6), (.int x3)])) (fun t k => ?_) ?_
  · show Steps p.tables e below (T0.setTop (mkF m 0 #[.val (.ref (n0 + ob0)), .val (.int i1), .val (.int i2), .unset, .unset, .unset] [])) _
    refine XS.aloadN X0.here hx rfl (hb hby d4_0) rfl rfl ?_
    show Steps p.tables e below (T0.setTop (mkF m 1 #[.val (.ref (n0 + ob0)), .val (.int i1), .val (.int i2), .unset, .unset, .unset] [(.ref (n0 + ob0))])) _
    refine XS.iloadN X0.here hx rfl (hb hby d4_1) rfl ?_
    show Steps p.tables e below (T0.setTop (mkF m 2 #[.val (.ref (n0 + ob0)), .val (.int i1), .val (.int i2), .unset, .unset, .unset] [(.int i1), (.ref (n0 + ob0))])) _
    refine st1 _ ?_
    show Steps p.tables e below (T1.setTop (mkF m 5 #[.val (.ref (n0 + ob0)), .val (.int i1), .val (.int i2), .unset, .unset, .unset] [(.int x3)])) _
    refine XS.istoreN X1.here hx rfl (hb hby d4_5) rfl (l' := #[.val (.ref (n0 + ob0)), .val (.int i1), .val (.int i2), .val (.int x3), .unset, .unset]) rfl ?_
    show Steps p.tables e below (T1.setTop (mkF m 6 #[.val (.ref (n0 + ob0)), .val (.int i1), .val (.int i2), .val (.int x3), .unset, .unset] [])) _
    refine XS.aloadN X1.here hx rfl (hb hby d4_6) rfl rfl ?_
    show Steps p.tables e below (T1.setTop (mkF m 7 #[.val (.ref (n0 + ob0)), .val (.int i1), .val (.int i2), .val (.int x3), .unset, .unset] [(.ref (n0 + ob0))])) _
    refine XS.iloadN X1.here hx rfl (hb hby d4_7) rfl ?_
    show Steps p.tables e below (T1.setTop (mkF m 8 #[.val (.ref (n0 + ob0)), .val (.int i1), .val (.int i2), .val (.int x3), .unset, .unset] [(.int i2), (.ref (n0 + ob0))])) _
    refine st4 _ ?_
    show Steps p.tables e below (T4.setTop (mkF m 11 #[.val (.ref (n0 + ob0)), .val (.int i1), .val (.int i2), .val (.int x3), .unset, .unset] [(.int x6)])) _
    refine XS.istore X4.here hx rfl (hb hby d4_11) rfl (l' := #[.val (.ref (n0 + ob0)), .val (.int i1), .val (.int i2), .val (.int x3), .val (.int x6), .unset]) rfl ?_
    show Steps p.tables e below (T4.setTop (mkF m 13 #[.val (.ref (n0 + ob0)), .val (.int i1), .val (.int i2), .val (.int x3), .val (.int x6), .unset] [])) _
    refine XS.iloadN X4.here hx rfl (hb hby d4_13) rfl ?_
    show Steps p.tables e below (T4.setTop (mkF m 14 #[.val (.ref (n0 + ob0)), .val (.int i1), .val (.int i2), .val (.int x3), .val (.int x6), .unset] [(.int x3)])) _
    refine XS.iload X4.here hx rfl (hb hby d4_14) rfl ?_
    exact k
  by_cases hc7 : x3 = x6
  · rw [if_pos hc7] at hf
    refine Gl.on (B := T4.setTop (mkF m 20 #[.val (.ref (n0 + ob0)), .val (.int i1), .val (.int i2), .val (.int x3), .val (.int x6), .unset] [(.int (0 : Int32))])) (fun t k => ?_) ?_
    · show Steps p.tables e below (T4.setTop (mkF m 16 #[.val (.ref (n0 + ob0)), .val (.int i1), .val (.int i2), .val (.int x3), .val (.int x6), .unset] [(.int x6), (.int x3)])) _
      refine XS.icmpNo X4.here hx rfl (hb hby d4_16) rfl (teq hc7).2 ?_
      show Steps p.tables e below (T4.setTop (mkF m 19 #[.val (.ref (n0 + ob0)), .val (.int i1), .val (.int i2), .val (.int x3), .val (.int x6), .unset] [])) _
      refine XS.iconst X4.here hx rfl (hb hby d4_19) ?_
      exact k
    obtain ⟨rfl, rfl⟩ := own_inj hf
    exact Gl.outN X4 hx hlk (t := .boolean) hret (by simp) (hb hby d4_20) ⟨rfl, N4, by rw [e4]; exact O4⟩ (by show _ ≤ 0; omega) (by show _ ≤ 0; omega)
  · rw [if_neg hc7] at hf
    obtain ⟨x8, hx8, hf⟩ := own_bind hf
    obtain ⟨T9, X9, e9, st9⟩ := getF X4 hx hZ hown (host := "") (Or.inl (hw _ (List.mem_of_getElem? (i := 12) rfl))) Via.refl e4 (O4.fld (gR_e hx8) rfl rfl) (g := (mkF m 22 #[.val (.ref (n0 + ob0)), .val (.int i1), .val (.int i2), .val (.int x3), .val (.int x6), .unset] [(.ref (n0 + ob0))])) rfl rfl (hb hby d4_22)
    obtain ⟨x10, hx10, hf⟩ := own_bind hf
    obtain ⟨x11, hx11, hf⟩ := own_bind hf
    obtain ⟨T12, X12, e12, st12⟩ := getF X9 hx hZ hown (host := "") (Or.inl (hw _ (List.mem_of_getElem? (i := 12) rfl))) Via.refl e9 (O4.fld (gR_e hx11) rfl rfl) (g := (mkF m 28 #[.val (.ref (n0 + ob0)), .val (.int i1), .val (.int i2), .val (.int x3), .val (.int x6), .unset] [(.ref (n0 + ob0)), (.int x10)])) rfl rfl (hb hby d4_28)
    obtain ⟨x13, hx13, hf⟩ := own_bind hf
    refine Gl.on (B := T12.setTop (mkF m 34 #[.val (.ref (n0 + ob0)), .val (.int i1), .val (.int i2), .val (.int x3), .val (.int x6), .unset] [(.int x13), (.int x10)])) (fun t k => ?_) ?_
    · show Steps p.tables e below (T4.setTop (mkF m 16 #[.val (.ref (n0 + ob0)), .val (.int i1), .val (.int i2), .val (.int x3), .val (.int x6), .unset] [(.int x6), (.int x3)])) _
      refine XS.icmpYes X4.here hx rfl (pc0 := 16) (pc' := 21) rfl (hb hby d4_16) rfl (feq hc7).2 (by decide) (by decide) ?_
      show Steps p.tables e below (T4.setTop (mkF m 21 #[.val (.ref (n0 + ob0)), .val (.int i1), .val (.int i2), .val (.int x3), .val (.int x6), .unset] [])) _
      refine XS.aloadN X4.here hx rfl (hb hby d4_21) rfl rfl ?_
      show Steps p.tables e below (T4.setTop (mkF m 22 #[.val (.ref (n0 + ob0)), .val (.int i1), .val (.int i2), .val (.int x3), .val (.int x6), .unset] [(.ref (n0 + ob0))])) _
      refine st9 _ ?_
      show Steps p.tables e below (T9.setTop (mkF m 25 #[.val (.ref (n0 + ob0)), .val (.int i1), .val (.int i2), .val (.int x3), .val (.int x6), .unset] [(.ref (n0 + x8))])) _
      refine XS.iloadN X9.here hx rfl (hb hby d4_25) rfl ?_
      show Steps p.tables e below (T9.setTop (mkF m 26 #[.val (.ref (n0 + ob0)), .val (.int i1), .val (.int i2), .val (.int x3), .val (.int x6), .unset] [(.int x3), (.ref (n0 + x8))])) _
      refine ldW X9 hx hZ e9 O4 hx10 rfl (g := (mkF m 26 #[.val (.ref (n0 + ob0)), .val (.int i1), .val (.int i2), .val (.int x3), .val (.int x6), .unset] [(.int x3), (.ref (n0 + x8))])) rfl rfl (hb hby d4_26) _ ?_
      show Steps p.tables e below (T9.setTop (mkF m 27 #[.val (.ref (n0 + ob0)), .val (.int i1), .val (.int i2), .val (.int x3), .val (.int x6), .unset] [(.int x10)])) _
      refine XS.aloadN X9.here hx rfl (hb hby d4_27) rfl rfl ?_
      show Steps p.tables e below (T9.setTop (mkF m 28 #[.val (.ref (n0 + ob0)), .val (.int i1), .val (.int i2), .val (.int x3), .val (.int x6), .unset] [(.ref (n0 + ob0)), (.int x10)])) _
      refine st12 _ ?_
      show Steps p.tables e below (T12.setTop (mkF m 31 #[.val (.ref (n0 + ob0)), .val (.int i1), .val (.int i2), .val (.int x3), .val (.int x6), .unset] [(.ref (n0 + x11)), (.int x10)])) _
      refine XS.iload X12.here hx rfl (hb hby d4_31) rfl ?_
      show Steps p.tables e below (T12.setTop (mkF m 33 #[.val (.ref (n0 + ob0)), .val (.int i1), .val (.int i2), .val (.int x3), .val (.int x6), .unset] [(.int x6), (.ref (n0 + x11)), (.int x10)])) _
      refine ldW X12 hx hZ e12 O4 hx13 rfl (g := (mkF m 33 #[.val (.ref (n0 + ob0)), .val (.int i1), .val (.int i2), .val (.int x3), .val (.int x6), .unset] [(.int x6), (.ref (n0 + x11)), (.int x10)])) rfl rfl (hb hby d4_33) _ ?_
      exact k
    by_cases hc14 : x10 < x13
    · rw [if_pos hc14] at hf
      refine Gl.on (B := T12.setTop (mkF m 47 #[.val (.ref (n0 + ob0)), .val (.int i1), .val (.int i2), .val (.int x6), .val (.int x3), .val (.int x3)] [])) (fun t k => ?_) ?_
      · show Steps p.tables e below (T12.setTop (mkF m 34 #[.val (.ref (n0 + ob0)), .val (.int i1), .val (.int i2), .val (.int x3), .val (.int x6), .unset] [(.int x13), (.int x10)])) _
        refine XS.icmpNo X12.here hx rfl (hb hby d4_34) rfl (tlt hc14).2.1 ?_
        show Steps p.tables e below (T12.setTop (mkF m 37 #[.val (.ref (n0 + ob0)), .val (.int i1), .val (.int i2), .val (.int x3), .val (.int x6), .unset] [])) _
        refine XS.iloadN X12.here hx rfl (hb hby d4_37) rfl ?_
        show Steps p.tables e below (T12.setTop (mkF m 38 #[.val (.ref (n0 + ob0)), .val (.int i1), .val (.int i2), .val (.int x3), .val (.int x6), .unset] [(.int x3)])) _
        refine XS.istore X12.here hx rfl (hb hby d4_38) rfl (l' := #[.val (.ref (n0 + ob0)), .val (.int i1), .val (.int i2), .val (.int x3), .val (.int x6), .val (.int x3)]) rfl ?_
        show Steps p.tables e below (T12.setTop (mkF m 40 #[.val (.ref (n0 + ob0)), .val (.int i1), .val (.int i2), .val (.int x3), .val (.int x6), .val (.int x3)] [])) _
        refine XS.iload X12.here hx rfl (hb hby d4_40) rfl ?_
        show Steps p.tables e below (T12.setTop (mkF m 42 #[.val (.ref (n0 + ob0)), .val (.int i1), .val (.int i2), .val (.int x3), .val (.int x6), .val (.int x3)] [(.int x6)])) _
        refine XS.istoreN X12.here hx rfl (hb hby d4_42) rfl (l' := #[.val (.ref (n0 + ob0)), .val (.int i1), .val (.int i2), .val (.int x6), .val (.int x6), .val (.int x3)]) rfl ?_
        show Steps p.tables e below (T12.setTop (mkF m 43 #[.val (.ref (n0 + ob0)), .val (.int i1), .val (.int i2), .val (.int x6), .val (.int x6), .val (.int x3)] [])) _
        refine XS.iload X12.here hx rfl (hb hby d4_43) rfl ?_
        show Steps p.tables e below (T12.setTop (mkF m 45 #[.val (.ref (n0 + ob0)), .val (.int i1), .val (.int i2), .val (.int x6), .val (.int x6), .val (.int x3)] [(.int x3)])) _
        refine XS.istore X12.here hx rfl (hb hby d4_45) rfl (l' := #[.val (.ref (n0 + ob0)), .val (.int i1), .val (.int i2), .val (.int x6), .val (.int x3), .val (.int x3)]) rfl ?_
        exact k
      exact bt4_47 hw hC X12 e12 O4 N4 (by omega) (by omega) (One.val rfl) hf
    · rw [if_neg hc14] at hf
      refine Gl.on (B := T12.setTop (mkF m 47 #[.val (.ref (n0 + ob0)), .val (.int i1), .val (.int i2), .val (.int x3), .val (.int x6), .unset] [])) (fun t k => ?_) ?_
      · show Steps p.tables e below (T12.setTop (mkF m 34 #[.val (.ref (n0 + ob0)), .val (.int i1), .val (.int i2), .val (.int x3), .val (.int x6), .unset] [(.int x13), (.int x10)])) _
        refine XS.icmpYes X12.here hx rfl (pc0 := 34) (pc' := 47) rfl (hb hby d4_34) rfl (flt hc14).2.1 (by decide) (by decide) ?_
        exact k
      exact bt4_47 hw hC X12 e12 O4 N4 (by omega) (by omega) One.u hf
theorem pd_1 : parseMethodDescriptor "(I)V" = some ⟨[.int], none⟩ := by decide +kernel
theorem pd_2 : parseMethodDescriptor "([III)Z" = some ⟨[(.array .int), .int, .int], some .boolean⟩ := by decide +kernel
theorem pd_3 : parseMethodDescriptor "(II)Z" = some ⟨[.int, .int], some .boolean⟩ := by decide +kernel
theorem pn_0 : plainName "com/example/sondage/sondage/graph/DisjointSetsFindPinLaw" = true := by first | (simp [plainName, overriddenIn]; done) | decide +kernel
def b0_277 (D : Hp) (ob5 : Nat) (i7 : Int32) (i20 : Int32) (i22 : Int32) (t0 : Int32) (t1 : Int32) : Option (Int32 × Hp) :=
  if t1 = t0 then ((ck D ob5 1).bind fun u56 => (f5 D ob5 i22).bind fun q55 => own_let q55.1 fun x57 => own_let q55.2 fun D55 =>
  if x57 = i22 then ((ck D55 ob5 1).bind fun u60 => (f5 D55 ob5 i20).bind fun q59 => own_let q59.1 fun x61 => own_let q59.2 fun D59 =>
  if x61 = i22 then (some ((i7 &&& 1), D59)) else (some ((0 : Int32), D59))) else (some ((0 : Int32), D55))) else (some ((0 : Int32), D))
set_option maxRecDepth 65536 in
set_option maxHeartbeats 40000000 in
theorem bt0_277 {p : Program} {l : Launch} {e : Env} {s : State} {m : MethodId} {args : Array Value} {below : List Frame} {meth : Method} {c : Code} {Z : State} {a0 : Array Value} {n0 : Nat} {D' : Hp} {r : Int32} {T0 : State} {locs : List Loc} {cells slots : Nat} {h0 : Heap} {D : Hp} {i0 : Int32} {i1 : Int32} {i2 : Int32} {i3 : Int32} {i4 : Int32} {ob5 : Nat} {ob6 : Nat} {i7 : Int32} {i8 : Int32} {i9 : Int32} {i10 : Int32} {i11 : Int32} {i12 : Int32} {i13 : Int32} {i14 : Int32} {i15 : Int32} {i16 : Int32} {i17 : Int32} {i18 : Int32} {i19 : Int32} {i20 : Int32} {i21 : Int32} {i22 : Int32} {i23 : Int32} {t0 : Int32} {t1 : Int32} (hw : ∀ d ∈ tables_1, d.before a0 Z = true) (hC : Cx p s m meth c Z code maxLocals ret "com/example/sondage/sondage/graph/DisjointSetsFindPinLaw" "law") (X0 : Stand p l e room_1 s m args below meth c T0 locs cells slots) (e0 : T0.heap = h0) (O0 : Ow Kt1 Z h0 n0 D) (N0 : Fr n0 locs) (hcc : cells ≤ 4) (hss : slots ≤ 22) (hf : b0_277 D ob5 i7 i20 i22 t0 t1 = some (r, D')) : Gl p e below s 16 128 (Qw Kt1 Z n0 (some (.int r)) D') (T0.setTop (mkF m 277 #[.val (.int i0), .val (.int i1), .val (.int i2), .val (.int i3), .val (.int i4), .val (.ref (n0 + ob5)), .val (.ref (n0 + ob6)), .val (.int i7), .val (.int i8), .val (.int i9), .val (.int i10), .val (.int i11), .val (.int i12), .val (.int i13), .val (.int i14), .val (.int i15), .val (.int i16), .val (.int i17), .val (.int i18), .val (.int i19), .val (.int i20), .val (.int i21), .val (.int i22), .val (.int i23)] [(.int t0), (.int t1)])) := by
  obtain ⟨hx, hZ, hby, hml, hown, hnm, hret, hlk⟩ := id hC
  have hml : c.maxLocals = 24 := hml
  rw [b0_277] at hf
  by_cases hc54 : t1 = t0
  · rw [if_pos hc54] at hf
    obtain ⟨u56, hk55, hf⟩ := own_bind hf
    obtain ⟨⟨x57, D55⟩, hq55, hf⟩ := own_bind hf
    obtain ⟨_, rfl, hf⟩ := own_letE hf
    obtain ⟨_, rfl, hf⟩ := own_letE hf
    obtain ⟨T55, h55, L55, X55, e55, O55, N55, st55⟩ := callVW X0 hx hZ (y := (⟨"com/example/sondage/sondage/graph/DisjointSets", "find", "(I)I"⟩ : MethodName)) hown (hw _ (List.mem_of_getElem? (i := 28) rfl)) (hw _ (List.mem_of_getElem? (i := 24) rfl)) (hw _ (List.mem_of_getElem? (i := 26) rfl)) (hw _ (List.mem_of_getElem? (i := 25) rfl)) (hw _ (List.mem_of_getElem? (i := 2) rfl)) (hw _ (List.mem_of_getElem? (i := 27) rfl)) (by decide) e0 O0 N0 hk55 rfl (as' := [(.int i22)]) (ct5 hw hq55) (W := 0) (kc := 0) (ks := 0) rfl rfl (by decide) (by decide) (g := (mkF m 286 #[.val (.int i0), .val (.int i1), .val (.int i2), .val (.int i3), .val (.int i4), .val (.ref (n0 + ob5)), .val (.ref (n0 + ob6)), .val (.int i7), .val (.int i8), .val (.int i9), .val (.int i10), .val (.int i11), .val (.int i12), .val (.int i13), .val (.int i14), .val (.int i15), .val (.int i16), .val (.int i17), .val (.int i18), .val (.int i19), .val (.int i20), .val (.int i21), .val (.int i22), .val (.int i23)] [(.int i22), (.ref (n0 + ob5))])) rfl (by rw [hml]; rfl) (rest := []) (lenOf pd_0 rfl) rfl (by show 2 * 0 + _ ≤ _; exact Nat.le_of_eq rfl) (hb hby at_286) (by show _ + 0 ≤ 16; omega) (by show _ + 0 ≤ 128; omega)
    refine Gl.on (B := T55.setTop (mkF m 291 #[.val (.int i0), .val (.int i1), .val (.int i2), .val (.int i3), .val (.int i4), .val (.ref (n0 + ob5)), .val (.ref (n0 + ob6)), .val (.int i7), .val (.int i8), .val (.int i9), .val (.int i10), .val (.int i11), .val (.int i12), .val (.int i13), .val (.int i14), .val (.int i15), .val (.int i16), .val (.int i17), .val (.int i18), .val (.int i19), .val (.int i20), .val (.int i21), .val (.int i22), .val (.int i23)] [(.int i22), (.int x57)])) (fun t k => ?_) ?_
    · show Steps p.tables e below (T0.setTop (mkF m 277 #[.val (.int i0), .val (.int i1), .val (.int i2), .val (.int i3), .val (.int i4), .val (.ref (n0 + ob5)), .val (.ref (n0 + ob6)), .val (.int i7), .val (.int i8), .val (.int i9), .val (.int i10), .val (.int i11), .val (.int i12), .val (.int i13), .val (.int i14), .val (.int i15), .val (.int i16), .val (.int i17), .val (.int i18), .val (.int i19), .val (.int i20), .val (.int i21), .val (.int i22), .val (.int i23)] [(.int t0), (.int t1)])) _
      refine XS.icmpYes X0.here hx rfl (pc0 := 277) (pc' := 282) rfl (hb hby at_277) rfl (teq hc54).1 (by decide) (by decide) ?_
      show Steps p.tables e below (T0.setTop (mkF m 282 #[.val (.int i0), .val (.int i1), .val (.int i2), .val (.int i3), .val (.int i4), .val (.ref (n0 + ob5)), .val (.ref (n0 + ob6)), .val (.int i7), .val (.int i8), .val (.int i9), .val (.int i10), .val (.int i11), .val (.int i12), .val (.int i13), .val (.int i14), .val (.int i15), .val (.int i16), .val (.int i17), .val (.int i18), .val (.int i19), .val (.int i20), .val (.int i21), .val (.int i22), .val (.int i23)] [])) _
      refine XS.aload X0.here hx rfl (hb hby at_282) rfl rfl ?_
      show Steps p.tables e below (T0.setTop (mkF m 284 #[.val (.int i0), .val (.int i1), .val (.int i2), .val (.int i3), .val (.int i4), .val (.ref (n0 + ob5)), .val (.ref (n0 + ob6)), .val (.int i7), .val (.int i8), .val (.int i9), .val (.int i10), .val (.int i11), .val (.int i12), .val (.int i13), .val (.int i14), .val (.int i15), .val (.int i16), .val (.int i17), .val (.int i18), .val (.int i19), .val (.int i20), .val (.int i21), .val (.int i22), .val (.int i23)] [(.ref (n0 + ob5))])) _
      refine XS.iload X0.here hx rfl (hb hby at_284) rfl ?_
      show Steps p.tables e below (T0.setTop (mkF m 286 #[.val (.int i0), .val (.int i1), .val (.int i2), .val (.int i3), .val (.int i4), .val (.ref (n0 + ob5)), .val (.ref (n0 + ob6)), .val (.int i7), .val (.int i8), .val (.int i9), .val (.int i10), .val (.int i11), .val (.int i12), .val (.int i13), .val (.int i14), .val (.int i15), .val (.int i16), .val (.int i17), .val (.int i18), .val (.int i19), .val (.int i20), .val (.int i21), .val (.int i22), .val (.int i23)] [(.int i22), (.ref (n0 + ob5))])) _
      refine st55 _ ?_
      show Steps p.tables e below (T55.setTop (mkF m 289 #[.val (.int i0), .val (.int i1), .val (.int i2), .val (.int i3), .val (.int i4), .val (.ref (n0 + ob5)), .val (.ref (n0 + ob6)), .val (.int i7), .val (.int i8), .val (.int i9), .val (.int i10), .val (.int i11), .val (.int i12), .val (.int i13), .val (.int i14), .val (.int i15), .val (.int i16), .val (.int i17), .val (.int i18), .val (.int i19), .val (.int i20), .val (.int i21), .val (.int i22), .val (.int i23)] [(.int x57)])) _
      refine XS.iload X55.here hx rfl (hb hby at_289) rfl ?_
      exact k
    by_cases hc58 : x57 = i22
    · rw [if_pos hc58] at hf
      obtain ⟨u60, hk59, hf⟩ := own_bind hf
      obtain ⟨⟨x61, D59⟩, hq59, hf⟩ := own_bind hf
      obtain ⟨_, rfl, hf⟩ := own_letE hf
      obtain ⟨_, rfl, hf⟩ := own_letE hf
      obtain ⟨T59, h59, L59, X59, e59, O59, N59, st59⟩ := callVW X55 hx hZ (y := (⟨"com/example/sondage/sondage/graph/DisjointSets", "find", "(I)I"⟩ : MethodName)) hown (hw _ (List.mem_of_getElem? (i := 28) rfl)) (hw _ (List.mem_of_getElem? (i := 24) rfl)) (hw _ (List.mem_of_getElem? (i := 26) rfl)) (hw _ (List.mem_of_getElem? (i := 25) rfl)) (hw _ (List.mem_of_getElem? (i := 2) rfl)) (hw _ (List.mem_of_getElem? (i := 27) rfl)) (by decide) e55 O55 N55 hk59 rfl (as' := [(.int i20)]) (ct5 hw hq59) (W := 0) (kc := 0) (ks := 0) rfl rfl (by decide) (by decide) (g := (mkF m 300 #[.val (.int i0), .val (.int i1), .val (.int i2), .val (.int i3), .val (.int i4), .val (.ref (n0 + ob5)), .val (.ref (n0 + ob6)), .val (.int i7), .val (.int i8), .val (.int i9), .val (.int i10), .val (.int i11), .val (.int i12), .val (.int i13), .val (.int i14), .val (.int i15), .val (.int i16), .val (.int i17), .val (.int i18), .val (.int i19), .val (.int i20), .val (.int i21), .val (.int i22), .val (.int i23)] [(.int i20), (.ref (n0 + ob5))])) rfl (by rw [hml]; rfl) (rest := []) (lenOf pd_0 rfl) rfl (by show 2 * 0 + _ ≤ _; exact Nat.le_of_eq rfl) (hb hby at_300) (by show _ + 0 ≤ 16; omega) (by show _ + 0 ≤ 128; omega)
      refine Gl.on (B := T59.setTop (mkF m 305 #[.val (.int i0), .val (.int i1), .val (.int i2), .val (.int i3), .val (.int i4), .val (.ref (n0 + ob5)), .val (.ref (n0 + ob6)), .val (.int i7), .val (.int i8), .val (.int i9), .val (.int i10), .val (.int i11), .val (.int i12), .val (.int i13), .val (.int i14), .val (.int i15), .val (.int i16), .val (.int i17), .val (.int i18), .val (.int i19), .val (.int i20), .val (.int i21), .val (.int i22), .val (.int i23)] [(.int i22), (.int x61)])) (fun t k => ?_) ?_
      · show Steps p.tables e below (T55.setTop (mkF m 291 #[.val (.int i0), .val (.int i1), .val (.int i2), .val (.int i3), .val (.int i4), .val (.ref (n0 + ob5)), .val (.ref (n0 + ob6)), .val (.int i7), .val (.int i8), .val (.int i9), .val (.int i10), .val (.int i11), .val (.int i12), .val (.int i13), .val (.int i14), .val (.int i15), .val (.int i16), .val (.int i17), .val (.int i18), .val (.int i19), .val (.int i20), .val (.int i21), .val (.int i22), .val (.int i23)] [(.int i22), (.int x57)])) _
        refine XS.icmpYes X55.here hx rfl (pc0 := 291) (pc' := 296) rfl (hb hby at_291) rfl (teq hc58).1 (by decide) (by decide) ?_
        show Steps p.tables e below (T55.setTop (mkF m 296 #[.val (.int i0), .val (.int i1), .val (.int i2), .val (.int i3), .val (.int i4), .val (.ref (n0 + ob5)), .val (.ref (n0 + ob6)), .val (.int i7), .val (.int i8), .val (.int i9), .val (.int i10), .val (.int i11), .val (.int i12), .val (.int i13), .val (.int i14), .val (.int i15), .val (.int i16), .val (.int i17), .val (.int i18), .val (.int i19), .val (.int i20), .val (.int i21), .val (.int i22), .val (.int i23)] [])) _
        refine XS.aload X55.here hx rfl (hb hby at_296) rfl rfl ?_
        show Steps p.tables e below (T55.setTop (mkF m 298 #[.val (.int i0), .val (.int i1), .val (.int i2), .val (.int i3), .val (.int i4), .val (.ref (n0 + ob5)), .val (.ref (n0 + ob6)), .val (.int i7), .val (.int i8), .val (.int i9), .val (.int i10), .val (.int i11), .val (.int i12), .val (.int i13), .val (.int i14), .val (.int i15), .val (.int i16), .val (.int i17), .val (.int i18), .val (.int i19), .val (.int i20), .val (.int i21), .val (.int i22), .val (.int i23)] [(.ref (n0 + ob5))])) _
        refine XS.iload X55.here hx rfl (hb hby at_298) rfl ?_
        show Steps p.tables e below (T55.setTop (mkF m 300 #[.val (.int i0), .val (.int i1), .val (.int i2), .val (.int i3), .val (.int i4), .val (.ref (n0 + ob5)), .val (.ref (n0 + ob6)), .val (.int i7), .val (.int i8), .val (.int i9), .val (.int i10), .val (.int i11), .val (.int i12), .val (.int i13), .val (.int i14), .val (.int i15), .val (.int i16), .val (.int i17), .val (.int i18), .val (.int i19), .val (.int i20), .val (.int i21), .val (.int i22), .val (.int i23)] [(.int i20), (.ref (n0 + ob5))])) _
        refine st59 _ ?_
        show Steps p.tables e below (T59.setTop (mkF m 303 #[.val (.int i0), .val (.int i1), .val (.int i2), .val (.int i3), .val (.int i4), .val (.ref (n0 + ob5)), .val (.ref (n0 + ob6)), .val (.int i7), .val (.int i8), .val (.int i9), .val (.int i10), .val (.int i11), .val (.int i12), .val (.int i13), .val (.int i14), .val (.int i15), .val (.int i16), .val (.int i17), .val (.int i18), .val (.int i19), .val (.int i20), .val (.int i21), .val (.int i22), .val (.int i23)] [(.int x61)])) _
        refine XS.iload X59.here hx rfl (hb hby at_303) rfl ?_
        exact k
      by_cases hc62 : x61 = i22
      · rw [if_pos hc62] at hf
        refine Gl.on (B := T59.setTop (mkF m 312 #[.val (.int i0), .val (.int i1), .val (.int i2), .val (.int i3), .val (.int i4), .val (.ref (n0 + ob5)), .val (.ref (n0 + ob6)), .val (.int i7), .val (.int i8), .val (.int i9), .val (.int i10), .val (.int i11), .val (.int i12), .val (.int i13), .val (.int i14), .val (.int i15), .val (.int i16), .val (.int i17), .val (.int i18), .val (.int i19), .val (.int i20), .val (.int i21), .val (.int i22), .val (.int i23)] [(.int i7)])) (fun t k => ?_) ?_
        · show Steps p.tables e below (T59.setTop (mkF m 305 #[.val (.int i0), .val (.int i1), .val (.int i2), .val (.int i3), .val (.int i4), .val (.ref (n0 + ob5)), .val (.ref (n0 + ob6)), .val (.int i7), .val (.int i8), .val (.int i9), .val (.int i10), .val (.int i11), .val (.int i12), .val (.int i13), .val (.int i14), .val (.int i15), .val (.int i16), .val (.int i17), .val (.int i18), .val (.int i19), .val (.int i20), .val (.int i21), .val (.int i22), .val (.int i23)] [(.int i22), (.int x61)])) _
          refine XS.icmpYes X59.here hx rfl (pc0 := 305) (pc' := 310) rfl (hb hby at_305) rfl (teq hc62).1 (by decide) (by decide) ?_
          show Steps p.tables e below (T59.setTop (mkF m 310 #[.val (.int i0), .val (.int i1), .val (.int i2), .val (.int i3), .val (.int i4), .val (.ref (n0 + ob5)), .val (.ref (n0 + ob6)), .val (.int i7), .val (.int i8), .val (.int i9), .val (.int i10), .val (.int i11), .val (.int i12), .val (.int i13), .val (.int i14), .val (.int i15), .val (.int i16), .val (.int i17), .val (.int i18), .val (.int i19), .val (.int i20), .val (.int i21), .val (.int i22), .val (.int i23)] [])) _
          refine XS.iload X59.here hx rfl (hb hby at_310) rfl ?_
          exact k
        obtain ⟨rfl, rfl⟩ := own_inj hf
        exact Gl.outN X59 hx hlk (t := .boolean) hret (by simp) (hb hby at_312) ⟨rfl, N59, by rw [e59]; exact O59⟩ (by show _ ≤ 16; omega) (by show _ ≤ 128; omega)
      · rw [if_neg hc62] at hf
        refine Gl.on (B := T59.setTop (mkF m 309 #[.val (.int i0), .val (.int i1), .val (.int i2), .val (.int i3), .val (.int i4), .val (.ref (n0 + ob5)), .val (.ref (n0 + ob6)), .val (.int i7), .val (.int i8), .val (.int i9), .val (.int i10), .val (.int i11), .val (.int i12), .val (.int i13), .val (.int i14), .val (.int i15), .val (.int i16), .val (.int i17), .val (.int i18), .val (.int i19), .val (.int i20), .val (.int i21), .val (.int i22), .val (.int i23)] [(.int (0 : Int32))])) (fun t k => ?_) ?_
        · show Steps p.tables e below (T59.setTop (mkF m 305 #[.val (.int i0), .val (.int i1), .val (.int i2), .val (.int i3), .val (.int i4), .val (.ref (n0 + ob5)), .val (.ref (n0 + ob6)), .val (.int i7), .val (.int i8), .val (.int i9), .val (.int i10), .val (.int i11), .val (.int i12), .val (.int i13), .val (.int i14), .val (.int i15), .val (.int i16), .val (.int i17), .val (.int i18), .val (.int i19), .val (.int i20), .val (.int i21), .val (.int i22), .val (.int i23)] [(.int i22), (.int x61)])) _
          refine XS.icmpNo X59.here hx rfl (hb hby at_305) rfl (feq hc62).1 ?_
          show Steps p.tables e below (T59.setTop (mkF m 308 #[.val (.int i0), .val (.int i1), .val (.int i2), .val (.int i3), .val (.int i4), .val (.ref (n0 + ob5)), .val (.ref (n0 + ob6)), .val (.int i7), .val (.int i8), .val (.int i9), .val (.int i10), .val (.int i11), .val (.int i12), .val (.int i13), .val (.int i14), .val (.int i15), .val (.int i16), .val (.int i17), .val (.int i18), .val (.int i19), .val (.int i20), .val (.int i21), .val (.int i22), .val (.int i23)] [])) _
          refine XS.iconst X59.here hx rfl (hb hby at_308) ?_
          exact k
        obtain ⟨rfl, rfl⟩ := own_inj hf
        exact Gl.outN X59 hx hlk (t := .boolean) hret (by simp) (hb hby at_309) ⟨rfl, N59, by rw [e59]; exact O59⟩ (by show _ ≤ 16; omega) (by show _ ≤ 128; omega)
    · rw [if_neg hc58] at hf
      refine Gl.on (B := T55.setTop (mkF m 295 #[.val (.int i0), .val (.int i1), .val (.int i2), .val (.int i3), .val (.int i4), .val (.ref (n0 + ob5)), .val (.ref (n0 + ob6)), .val (.int i7), .val (.int i8), .val (.int i9), .val (.int i10), .val (.int i11), .val (.int i12), .val (.int i13), .val (.int i14), .val (.int i15), .val (.int i16), .val (.int i17), .val (.int i18), .val (.int i19), .val (.int i20), .val (.int i21), .val (.int i22), .val (.int i23)] [(.int (0 : Int32))])) (fun t k => ?_) ?_
      · show Steps p.tables e below (T55.setTop (mkF m 291 #[.val (.int i0), .val (.int i1), .val (.int i2), .val (.int i3), .val (.int i4), .val (.ref (n0 + ob5)), .val (.ref (n0 + ob6)), .val (.int i7), .val (.int i8), .val (.int i9), .val (.int i10), .val (.int i11), .val (.int i12), .val (.int i13), .val (.int i14), .val (.int i15), .val (.int i16), .val (.int i17), .val (.int i18), .val (.int i19), .val (.int i20), .val (.int i21), .val (.int i22), .val (.int i23)] [(.int i22), (.int x57)])) _
        refine XS.icmpNo X55.here hx rfl (hb hby at_291) rfl (feq hc58).1 ?_
        show Steps p.tables e below (T55.setTop (mkF m 294 #[.val (.int i0), .val (.int i1), .val (.int i2), .val (.int i3), .val (.int i4), .val (.ref (n0 + ob5)), .val (.ref (n0 + ob6)), .val (.int i7), .val (.int i8), .val (.int i9), .val (.int i10), .val (.int i11), .val (.int i12), .val (.int i13), .val (.int i14), .val (.int i15), .val (.int i16), .val (.int i17), .val (.int i18), .val (.int i19), .val (.int i20), .val (.int i21), .val (.int i22), .val (.int i23)] [])) _
        refine XS.iconst X55.here hx rfl (hb hby at_294) ?_
        exact k
      obtain ⟨rfl, rfl⟩ := own_inj hf
      exact Gl.outN X55 hx hlk (t := .boolean) hret (by simp) (hb hby at_295) ⟨rfl, N55, by rw [e55]; exact O55⟩ (by show _ ≤ 16; omega) (by show _ ≤ 128; omega)
  · rw [if_neg hc54] at hf
    refine Gl.on (B := T0.setTop (mkF m 281 #[.val (.int i0), .val (.int i1), .val (.int i2), .val (.int i3), .val (.int i4), .val (.ref (n0 + ob5)), .val (.ref (n0 + ob6)), .val (.int i7), .val (.int i8), .val (.int i9), .val (.int i10), .val (.int i11), .val (.int i12), .val (.int i13), .val (.int i14), .val (.int i15), .val (.int i16), .val (.int i17), .val (.int i18), .val (.int i19), .val (.int i20), .val (.int i21), .val (.int i22), .val (.int i23)] [(.int (0 : Int32))])) (fun t k => ?_) ?_
    · show Steps p.tables e below (T0.setTop (mkF m 277 #[.val (.int i0), .val (.int i1), .val (.int i2), .val (.int i3), .val (.int i4), .val (.ref (n0 + ob5)), .val (.ref (n0 + ob6)), .val (.int i7), .val (.int i8), .val (.int i9), .val (.int i10), .val (.int i11), .val (.int i12), .val (.int i13), .val (.int i14), .val (.int i15), .val (.int i16), .val (.int i17), .val (.int i18), .val (.int i19), .val (.int i20), .val (.int i21), .val (.int i22), .val (.int i23)] [(.int t0), (.int t1)])) _
      refine XS.icmpNo X0.here hx rfl (hb hby at_277) rfl (feq hc54).1 ?_
      show Steps p.tables e below (T0.setTop (mkF m 280 #[.val (.int i0), .val (.int i1), .val (.int i2), .val (.int i3), .val (.int i4), .val (.ref (n0 + ob5)), .val (.ref (n0 + ob6)), .val (.int i7), .val (.int i8), .val (.int i9), .val (.int i10), .val (.int i11), .val (.int i12), .val (.int i13), .val (.int i14), .val (.int i15), .val (.int i16), .val (.int i17), .val (.int i18), .val (.int i19), .val (.int i20), .val (.int i21), .val (.int i22), .val (.int i23)] [])) _
      refine XS.iconst X0.here hx rfl (hb hby at_280) ?_
      exact k
    obtain ⟨rfl, rfl⟩ := own_inj hf
    exact Gl.outN X0 hx hlk (t := .boolean) hret (by simp) (hb hby at_281) ⟨rfl, N0, by rw [e0]; exact O0⟩ (by show _ ≤ 16; omega) (by show _ ≤ 128; omega)
def b0_259 (D : Hp) (ob5 : Nat) (ob6 : Nat) (i7 : Int32) (i20 : Int32) (i21 : Int32) (i22 : Int32) (t0 : Int32) : Option (Int32 × Hp) :=
  (rI D ob6 0 i20).bind fun x51 =>
  (rI D ob6 0 i21).bind fun x52 =>
  if x51 = x52 then (b0_277 D ob5 i7 i20 i22 (1 : Int32) t0) else (b0_277 D ob5 i7 i20 i22 (0 : Int32) t0)
set_option maxRecDepth 65536 in
set_option maxHeartbeats 40000000 in
theorem bt0_259 {p : Program} {l : Launch} {e : Env} {s : State} {m : MethodId} {args : Array Value} {below : List Frame} {meth : Method} {c : Code} {Z : State} {a0 : Array Value} {n0 : Nat} {D' : Hp} {r : Int32} {T0 : State} {locs : List Loc} {cells slots : Nat} {h0 : Heap} {D : Hp} {i0 : Int32} {i1 : Int32} {i2 : Int32} {i3 : Int32} {i4 : Int32} {ob5 : Nat} {ob6 : Nat} {i7 : Int32} {i8 : Int32} {i9 : Int32} {i10 : Int32} {i11 : Int32} {i12 : Int32} {i13 : Int32} {i14 : Int32} {i15 : Int32} {i16 : Int32} {i17 : Int32} {i18 : Int32} {i19 : Int32} {i20 : Int32} {i21 : Int32} {i22 : Int32} {i23 : Int32} {t0 : Int32} (hw : ∀ d ∈ tables_1, d.before a0 Z = true) (hC : Cx p s m meth c Z code maxLocals ret "com/example/sondage/sondage/graph/DisjointSetsFindPinLaw" "law") (X0 : Stand p l e room_1 s m args below meth c T0 locs cells slots) (e0 : T0.heap = h0) (O0 : Ow Kt1 Z h0 n0 D) (N0 : Fr n0 locs) (hcc : cells ≤ 4) (hss : slots ≤ 22) (hf : b0_259 D ob5 ob6 i7 i20 i21 i22 t0 = some (r, D')) : Gl p e below s 16 128 (Qw Kt1 Z n0 (some (.int r)) D') (T0.setTop (mkF m 259 #[.val (.int i0), .val (.int i1), .val (.int i2), .val (.int i3), .val (.int i4), .val (.ref (n0 + ob5)), .val (.ref (n0 + ob6)), .val (.int i7), .val (.int i8), .val (.int i9), .val (.int i10), .val (.int i11), .val (.int i12), .val (.int i13), .val (.int i14), .val (.int i15), .val (.int i16), .val (.int i17), .val (.int i18), .val (.int i19), .val (.int i20), .val (.int i21), .val (.int i22), .val (.int i23)] [(.int t0)])) := by
  obtain ⟨hx, hZ, hby, hml, hown, hnm, hret, hlk⟩ := id hC
  have hml : c.maxLocals = 24 := hml
  rw [b0_259] at hf
  obtain ⟨x51, hx51, hf⟩ := own_bind hf
  obtain ⟨x52, hx52, hf⟩ := own_bind hf
  refine Gl.on (B := T0.setTop (mkF m 269 #[.val (.int i0), .val (.int i1), .val (.int i2), .val (.int i3), .val (.int i4), .val (.ref (n0 + ob5)), .val (.ref (n0 + ob6)), .val (.int i7), .val (.int i8), .val (.int i9), .val (.int i10), .val (.int i11), .val (.int i12), .val (.int i13), .val (.int i14), .val (.int i15), .val (.int i16), .val (.int i17), .val (.int i18), .val (.int i19), .val (.int i20), .val (.int i21), .val (.int i22), .val (.int i23)] [(.int x52), (.int x51), (.int t0)])) (fun t k => ?_) ?_
  · show Steps p.tables e below (T0.setTop (mkF m 259 #[.val (.int i0), .val (.int i1), .val (.int i2), .val (.int i3), .val (.int i4), .val (.ref (n0 + ob5)), .val (.ref (n0 + ob6)), .val (.int i7), .val (.int i8), .val (.int i9), .val (.int i10), .val (.int i11), .val (.int i12), .val (.int i13), .val (.int i14), .val (.int i15), .val (.int i16), .val (.int i17), .val (.int i18), .val (.int i19), .val (.int i20), .val (.int i21), .val (.int i22), .val (.int i23)] [(.int t0)])) _
    refine XS.aload X0.here hx rfl (hb hby at_259) rfl rfl ?_
    show Steps p.tables e below (T0.setTop (mkF m 261 #[.val (.int i0), .val (.int i1), .val (.int i2), .val (.int i3), .val (.int i4), .val (.ref (n0 + ob5)), .val (.ref (n0 + ob6)), .val (.int i7), .val (.int i8), .val (.int i9), .val (.int i10), .val (.int i11), .val (.int i12), .val (.int i13), .val (.int i14), .val (.int i15), .val (.int i16), .val (.int i17), .val (.int i18), .val (.int i19), .val (.int i20), .val (.int i21), .val (.int i22), .val (.int i23)] [(.ref (n0 + ob6)), (.int t0)])) _
    refine XS.iload X0.here hx rfl (hb hby at_261) rfl ?_
    show Steps p.tables e below (T0.setTop (mkF m 263 #[.val (.int i0), .val (.int i1), .val (.int i2), .val (.int i3), .val (.int i4), .val (.ref (n0 + ob5)), .val (.ref (n0 + ob6)), .val (.int i7), .val (.int i8), .val (.int i9), .val (.int i10), .val (.int i11), .val (.int i12), .val (.int i13), .val (.int i14), .val (.int i15), .val (.int i16), .val (.int i17), .val (.int i18), .val (.int i19), .val (.int i20), .val (.int i21), .val (.int i22), .val (.int i23)] [(.int i20), (.ref (n0 + ob6)), (.int t0)])) _
    refine ldW X0 hx hZ e0 O0 hx51 rfl (g := (mkF m 263 #[.val (.int i0), .val (.int i1), .val (.int i2), .val (.int i3), .val (.int i4), .val (.ref (n0 + ob5)), .val (.ref (n0 + ob6)), .val (.int i7), .val (.int i8), .val (.int i9), .val (.int i10), .val (.int i11), .val (.int i12), .val (.int i13), .val (.int i14), .val (.int i15), .val (.int i16), .val (.int i17), .val (.int i18), .val (.int i19), .val (.int i20), .val (.int i21), .val (.int i22), .val (.int i23)] [(.int i20), (.ref (n0 + ob6)), (.int t0)])) rfl rfl (hb hby at_263) _ ?_
    show Steps p.tables e below (T0.setTop (mkF m 264 #[.val (.int i0), .val (.int i1), .val (.int i2), .val (.int i3), .val (.int i4), .val (.ref (n0 + ob5)), .val (.ref (n0 + ob6)), .val (.int i7), .val (.int i8), .val (.int i9), .val (.int i10), .val (.int i11), .val (.int i12), .val (.int i13), .val (.int i14), .val (.int i15), .val (.int i16), .val (.int i17), .val (.int i18), .val (.int i19), .val (.int i20), .val (.int i21), .val (.int i22), .val (.int i23)] [(.int x51), (.int t0)])) _
    refine XS.aload X0.here hx rfl (hb hby at_264) rfl rfl ?_
    show Steps p.tables e below (T0.setTop (mkF m 266 #[.val (.int i0), .val (.int i1), .val (.int i2), .val (.int i3), .val (.int i4), .val (.ref (n0 + ob5)), .val (.ref (n0 + ob6)), .val (.int i7), .val (.int i8), .val (.int i9), .val (.int i10), .val (.int i11), .val (.int i12), .val (.int i13), .val (.int i14), .val (.int i15), .val (.int i16), .val (.int i17), .val (.int i18), .val (.int i19), .val (.int i20), .val (.int i21), .val (.int i22), .val (.int i23)] [(.ref (n0 + ob6)), (.int x51), (.int t0)])) _
    refine XS.iload X0.here hx rfl (hb hby at_266) rfl ?_
    show Steps p.tables e below (T0.setTop (mkF m 268 #[.val (.int i0), .val (.int i1), .val (.int i2), .val (.int i3), .val (.int i4), .val (.ref (n0 + ob5)), .val (.ref (n0 + ob6)), .val (.int i7), .val (.int i8), .val (.int i9), .val (.int i10), .val (.int i11), .val (.int i12), .val (.int i13), .val (.int i14), .val (.int i15), .val (.int i16), .val (.int i17), .val (.int i18), .val (.int i19), .val (.int i20), .val (.int i21), .val (.int i22), .val (.int i23)] [(.int i21), (.ref (n0 + ob6)), (.int x51), (.int t0)])) _
    refine ldW X0 hx hZ e0 O0 hx52 rfl (g := (mkF m 268 #[.val (.int i0), .val (.int i1), .val (.int i2), .val (.int i3), .val (.int i4), .val (.ref (n0 + ob5)), .val (.ref (n0 + ob6)), .val (.int i7), .val (.int i8), .val (.int i9), .val (.int i10), .val (.int i11), .val (.int i12), .val (.int i13), .val (.int i14), .val (.int i15), .val (.int i16), .val (.int i17), .val (.int i18), .val (.int i19), .val (.int i20), .val (.int i21), .val (.int i22), .val (.int i23)] [(.int i21), (.ref (n0 + ob6)), (.int x51), (.int t0)])) rfl rfl (hb hby at_268) _ ?_
    exact k
  by_cases hc53 : x51 = x52
  · rw [if_pos hc53] at hf
    refine Gl.on (B := T0.setTop (mkF m 277 #[.val (.int i0), .val (.int i1), .val (.int i2), .val (.int i3), .val (.int i4), .val (.ref (n0 + ob5)), .val (.ref (n0 + ob6)), .val (.int i7), .val (.int i8), .val (.int i9), .val (.int i10), .val (.int i11), .val (.int i12), .val (.int i13), .val (.int i14), .val (.int i15), .val (.int i16), .val (.int i17), .val (.int i18), .val (.int i19), .val (.int i20), .val (.int i21), .val (.int i22), .val (.int i23)] [(.int (1 : Int32)), (.int t0)])) (fun t k => ?_) ?_
    · show Steps p.tables e below (T0.setTop (mkF m 269 #[.val (.int i0), .val (.int i1), .val (.int i2), .val (.int i3), .val (.int i4), .val (.ref (n0 + ob5)), .val (.ref (n0 + ob6)), .val (.int i7), .val (.int i8), .val (.int i9), .val (.int i10), .val (.int i11), .val (.int i12), .val (.int i13), .val (.int i14), .val (.int i15), .val (.int i16), .val (.int i17), .val (.int i18), .val (.int i19), .val (.int i20), .val (.int i21), .val (.int i22), .val (.int i23)] [(.int x52), (.int x51), (.int t0)])) _
      refine XS.icmpNo X0.here hx rfl (hb hby at_269) rfl (teq hc53).2 ?_
      show Steps p.tables e below (T0.setTop (mkF m 272 #[.val (.int i0), .val (.int i1), .val (.int i2), .val (.int i3), .val (.int i4), .val (.ref (n0 + ob5)), .val (.ref (n0 + ob6)), .val (.int i7), .val (.int i8), .val (.int i9), .val (.int i10), .val (.int i11), .val (.int i12), .val (.int i13), .val (.int i14), .val (.int i15), .val (.int i16), .val (.int i17), .val (.int i18), .val (.int i19), .val (.int i20), .val (.int i21), .val (.int i22), .val (.int i23)] [(.int t0)])) _
      refine XS.iconst X0.here hx rfl (hb hby at_272) ?_
      show Steps p.tables e below (T0.setTop (mkF m 273 #[.val (.int i0), .val (.int i1), .val (.int i2), .val (.int i3), .val (.int i4), .val (.ref (n0 + ob5)), .val (.ref (n0 + ob6)), .val (.int i7), .val (.int i8), .val (.int i9), .val (.int i10), .val (.int i11), .val (.int i12), .val (.int i13), .val (.int i14), .val (.int i15), .val (.int i16), .val (.int i17), .val (.int i18), .val (.int i19), .val (.int i20), .val (.int i21), .val (.int i22), .val (.int i23)] [(.int (1 : Int32)), (.int t0)])) _
      refine XS.goto X0.here hx rfl (pc0 := 273) (pc' := 277) rfl (hb hby at_273) (by decide) (by decide) ?_
      exact k
    exact bt0_277 hw hC X0 e0 O0 N0 (by omega) (by omega) hf
  · rw [if_neg hc53] at hf
    refine Gl.on (B := T0.setTop (mkF m 277 #[.val (.int i0), .val (.int i1), .val (.int i2), .val (.int i3), .val (.int i4), .val (.ref (n0 + ob5)), .val (.ref (n0 + ob6)), .val (.int i7), .val (.int i8), .val (.int i9), .val (.int i10), .val (.int i11), .val (.int i12), .val (.int i13), .val (.int i14), .val (.int i15), .val (.int i16), .val (.int i17), .val (.int i18), .val (.int i19), .val (.int i20), .val (.int i21), .val (.int i22), .val (.int i23)] [(.int (0 : Int32)), (.int t0)])) (fun t k => ?_) ?_
    · show Steps p.tables e below (T0.setTop (mkF m 269 #[.val (.int i0), .val (.int i1), .val (.int i2), .val (.int i3), .val (.int i4), .val (.ref (n0 + ob5)), .val (.ref (n0 + ob6)), .val (.int i7), .val (.int i8), .val (.int i9), .val (.int i10), .val (.int i11), .val (.int i12), .val (.int i13), .val (.int i14), .val (.int i15), .val (.int i16), .val (.int i17), .val (.int i18), .val (.int i19), .val (.int i20), .val (.int i21), .val (.int i22), .val (.int i23)] [(.int x52), (.int x51), (.int t0)])) _
      refine XS.icmpYes X0.here hx rfl (pc0 := 269) (pc' := 276) rfl (hb hby at_269) rfl (feq hc53).2 (by decide) (by decide) ?_
      show Steps p.tables e below (T0.setTop (mkF m 276 #[.val (.int i0), .val (.int i1), .val (.int i2), .val (.int i3), .val (.int i4), .val (.ref (n0 + ob5)), .val (.ref (n0 + ob6)), .val (.int i7), .val (.int i8), .val (.int i9), .val (.int i10), .val (.int i11), .val (.int i12), .val (.int i13), .val (.int i14), .val (.int i15), .val (.int i16), .val (.int i17), .val (.int i18), .val (.int i19), .val (.int i20), .val (.int i21), .val (.int i22), .val (.int i23)] [(.int t0)])) _
      refine XS.iconst X0.here hx rfl (hb hby at_276) ?_
      exact k
    exact bt0_277 hw hC X0 e0 O0 N0 (by omega) (by omega) hf
def b0_166 (D : Hp) (i3 : Int32) (i4 : Int32) (ob5 : Nat) (ob6 : Nat) (i7 : Int32) : Option (Int32 × Hp) :=
  own_let (i3 &&& (3 : Int32)) fun v32 =>
  own_let (i4 &&& (3 : Int32)) fun v33 =>
  (ck D ob5 1).bind fun u35 => (f5 D ob5 v32).bind fun q34 => own_let q34.1 fun x36 => own_let q34.2 fun D34 =>
  (ck D34 ob5 1).bind fun u38 => (f5 D34 ob5 v33).bind fun q37 => own_let q37.1 fun x39 => own_let q37.2 fun D37 =>
  if x36 < (0 : Int32) then (some ((0 : Int32), D37)) else (if (3 : Int32) < x36 then (some ((0 : Int32), D37)) else (if x39 < (0 : Int32) then (some ((0 : Int32), D37)) else (if (3 : Int32) < x39 then (some ((0 : Int32), D37)) else ((rI D37 ob6 0 x36).bind fun x44 =>
  (rI D37 ob6 0 v32).bind fun x45 =>
  if x44 = x45 then ((rI D37 ob6 0 x39).bind fun x47 =>
  (rI D37 ob6 0 v33).bind fun x48 =>
  if x47 = x48 then (if x36 = x39 then (b0_259 D37 ob5 ob6 i7 v32 v33 x36 (1 : Int32)) else (b0_259 D37 ob5 ob6 i7 v32 v33 x36 (0 : Int32))) else (some ((0 : Int32), D37))) else (some ((0 : Int32), D37))))))
set_option maxRecDepth 65536 in
set_option maxHeartbeats 40000000 in
theorem bt0_166 {p : Program} {l : Launch} {e : Env} {s : State} {m : MethodId} {args : Array Value} {below : List Frame} {meth : Method} {c : Code} {Z : State} {a0 : Array Value} {n0 : Nat} {D' : Hp} {r : Int32} {T0 : State} {locs : List Loc} {cells slots : Nat} {h0 : Heap} {D : Hp} {i0 : Int32} {i1 : Int32} {i2 : Int32} {i3 : Int32} {i4 : Int32} {ob5 : Nat} {ob6 : Nat} {i7 : Int32} {i8 : Int32} {i9 : Int32} {i10 : Int32} {i11 : Int32} {i12 : Int32} {i13 : Int32} {i14 : Int32} {i15 : Int32} {i16 : Int32} {i17 : Int32} {i18 : Int32} {i19 : Int32} (hw : ∀ d ∈ tables_1, d.before a0 Z = true) (hC : Cx p s m meth c Z code maxLocals ret "com/example/sondage/sondage/graph/DisjointSetsFindPinLaw" "law") (X0 : Stand p l e room_1 s m args below meth c T0 locs cells slots) (e0 : T0.heap = h0) (O0 : Ow Kt1 Z h0 n0 D) (N0 : Fr n0 locs) (hcc : cells ≤ 4) (hss : slots ≤ 22) (hf : b0_166 D i3 i4 ob5 ob6 i7 = some (r, D')) : Gl p e below s 16 128 (Qw Kt1 Z n0 (some (.int r)) D') (T0.setTop (mkF m 166 #[.val (.int i0), .val (.int i1), .val (.int i2), .val (.int i3), .val (.int i4), .val (.ref (n0 + ob5)), .val (.ref (n0 + ob6)), .val (.int i7), .val (.int i8), .val (.int i9), .val (.int i10), .val (.int i11), .val (.int i12), .val (.int i13), .val (.int i14), .val (.int i15), .val (.int i16), .val (.int i17), .val (.int i18), .val (.int i19), .unset, .unset, .unset, .unset] [])) := by
  obtain ⟨hx, hZ, hby, hml, hown, hnm, hret, hlk⟩ := id hC
  have hml : c.maxLocals = 24 := hml
  rw [b0_166] at hf
  obtain ⟨v32, hv32, hf⟩ := own_letE hf
  obtain ⟨v33, hv33, hf⟩ := own_letE hf
  obtain ⟨u35, hk34, hf⟩ := own_bind hf
  obtain ⟨⟨x36, D34⟩, hq34, hf⟩ := own_bind hf
  obtain ⟨_, rfl, hf⟩ := own_letE hf
  obtain ⟨_, rfl, hf⟩ := own_letE hf
  obtain ⟨T34, h34, L34, X34, e34, O34, N34, st34⟩ := callVW X0 hx hZ (y := (⟨"com/example/sondage/sondage/graph/DisjointSets", "find", "(I)I"⟩ : MethodName)) hown (hw _ (List.mem_of_getElem? (i := 28) rfl)) (hw _ (List.mem_of_getElem? (i := 24) rfl)) (hw _ (List.mem_of_getElem? (i := 26) rfl)) (hw _ (List.mem_of_getElem? (i := 25) rfl)) (hw _ (List.mem_of_getElem? (i := 2) rfl)) (hw _ (List.mem_of_getElem? (i := 27) rfl)) (by decide) e0 O0 N0 hk34 rfl (as' := [(.int v32)]) (ct5 hw hq34) (W := 0) (kc := 0) (ks := 0) rfl rfl (by decide) (by decide) (g := (mkF m 181 #[.val (.int i0), .val (.int i1), .val (.int i2), .val (.int i3), .val (.int i4), .val (.ref (n0 + ob5)), .val (.ref (n0 + ob6)), .val (.int i7), .val (.int i8), .val (.int i9), .val (.int i10), .val (.int i11), .val (.int i12), .val (.int i13), .val (.int i14), .val (.int i15), .val (.int i16), .val (.int i17), .val (.int i18), .val (.int i19), .val (.int v32), .val (.int v33), .unset, .unset] [(.int v32), (.ref (n0 + ob5))])) rfl (by rw [hml]; rfl) (rest := []) (lenOf pd_0 rfl) rfl (by show 2 * 0 + _ ≤ _; exact Nat.le_of_eq rfl) (hb hby at_181) (by show _ + 0 ≤ 16; omega) (by show _ + 0 ≤ 128; omega)
  obtain ⟨u38, hk37, hf⟩ := own_bind hf
  obtain ⟨⟨x39, D37⟩, hq37, hf⟩ := own_bind hf
  obtain ⟨_, rfl, hf⟩ := own_letE hf
  obtain ⟨_, rfl, hf⟩ := own_letE hf
  obtain ⟨T37, h37, L37, X37, e37, O37, N37, st37⟩ := callVW X34 hx hZ (y := (⟨"com/example/sondage/sondage/graph/DisjointSets", "find", "(I)I"⟩ : MethodName)) hown (hw _ (List.mem_of_getElem? (i := 28) rfl)) (hw _ (List.mem_of_getElem? (i := 24) rfl)) (hw _ (List.mem_of_getElem? (i := 26) rfl)) (hw _ (List.mem_of_getElem? (i := 25) rfl)) (hw _ (List.mem_of_getElem? (i := 2) rfl)) (hw _ (List.mem_of_getElem? (i := 27) rfl)) (by decide) e34 O34 N34 hk37 rfl (as' := [(.int v33)]) (ct5 hw hq37) (W := 0) (kc := 0) (ks := 0) rfl rfl (by decide) (by decide) (g := (mkF m 190 #[.val (.int i0), .val (.int i1), .val (.int i2), .val (.int i3), .val (.int i4), .val (.ref (n0 + ob5)), .val (.ref (n0 + ob6)), .val (.int i7), .val (.int i8), .val (.int i9), .val (.int i10), .val (.int i11), .val (.int i12), .val (.int i13), .val (.int i14), .val (.int i15), .val (.int i16), .val (.int i17), .val (.int i18), .val (.int i19), .val (.int v32), .val (.int v33), .val (.int x36), .unset] [(.int v33), (.ref (n0 + ob5))])) rfl (by rw [hml]; rfl) (rest := []) (lenOf pd_0 rfl) rfl (by show 2 * 0 + _ ≤ _; exact Nat.le_of_eq rfl) (hb hby at_190) (by show _ + 0 ≤ 16; omega) (by show _ + 0 ≤ 128; omega)
  refine Gl.on (B := T37.setTop (mkF m 197 #[.val (.int i0), .val (.int i1), .val (.int i2), .val (.int i3), .val (.int i4), .val (.ref (n0 + ob5)), .val (.ref (n0 + ob6)), .val (.int i7), .val (.int i8), .val (.int i9), .val (.int i10), .val (.int i11), .val (.int i12), .val (.int i13), .val (.int i14), .val (.int i15), .val (.int i16), .val (.int i17), .val (.int i18), .val (.int i19), .val (.int v32), .val (.int v33), .val (.int x36), .val (.int x39)] [(.int x36)])) (fun t k => ?_) ?_
  · show Steps p.tables e below (T0.setTop (mkF m 166 #[.val (.int i0), .val (.int i1), .val (.int i2), .val (.int i3), .val (.int i4), .val (.ref (n0 + ob5)), .val (.ref (n0 + ob6)), .val (.int i7), .val (.int i8), .val (.int i9), .val (.int i10), .val (.int i11), .val (.int i12), .val (.int i13), .val (.int i14), .val (.int i15), .val (.int i16), .val (.int i17), .val (.int i18), .val (.int i19), .unset, .unset, .unset, .unset] [])) _
    refine XS.iloadN X0.here hx rfl (hb hby at_166) rfl ?_
    show Steps p.tables e below (T0.setTop (mkF m 167 #[.val (.int i0), .val (.int i1), .val (.int i2), .val (.int i3), .val (.int i4), .val (.ref (n0 + ob5)), .val (.ref (n0 + ob6)), .val (.int i7), .val (.int i8), .val (.int i9), .val (.int i10), .val (.int i11), .val (.int i12), .val (.int i13), .val (.int i14), .val (.int i15), .val (.int i16), .val (.int i17), .val (.int i18), .val (.int i19), .unset, .unset, .unset, .unset] [(.int i3)])) _
    refine XS.iconst X0.here hx rfl (hb hby at_167) ?_
    show Steps p.tables e below (T0.setTop (mkF m 168 #[.val (.int i0), .val (.int i1), .val (.int i2), .val (.int i3), .val (.int i4), .val (.ref (n0 + ob5)), .val (.ref (n0 + ob6)), .val (.int i7), .val (.int i8), .val (.int i9), .val (.int i10), .val (.int i11), .val (.int i12), .val (.int i13), .val (.int i14), .val (.int i15), .val (.int i16), .val (.int i17), .val (.int i18), .val (.int i19), .unset, .unset, .unset, .unset] [(.int (3 : Int32)), (.int i3)])) _
    refine XS.iand X0.here hx rfl (hb hby at_168) rfl ?_
    show Steps p.tables e below (T0.setTop (mkF m 169 #[.val (.int i0), .val (.int i1), .val (.int i2), .val (.int i3), .val (.int i4), .val (.ref (n0 + ob5)), .val (.ref (n0 + ob6)), .val (.int i7), .val (.int i8), .val (.int i9), .val (.int i10), .val (.int i11), .val (.int i12), .val (.int i13), .val (.int i14), .val (.int i15), .val (.int i16), .val (.int i17), .val (.int i18), .val (.int i19), .unset, .unset, .unset, .unset] [(.int (i3 &&& (3 : Int32)))])) _
    refine own_to (congrArg (fun z => T0.setTop (mkF m 169 #[.val (.int i0), .val (.int i1), .val (.int i2), .val (.int i3), .val (.int i4), .val (.ref (n0 + ob5)), .val (.ref (n0 + ob6)), .val (.int i7), .val (.int i8), .val (.int i9), .val (.int i10), .val (.int i11), .val (.int i12), .val (.int i13), .val (.int i14), .val (.int i15), .val (.int i16), .val (.int i17), .val (.int i18), .val (.int i19), .unset, .unset, .unset, .unset] [(.int z)])) hv32) ?_
    show Steps p.tables e below (T0.setTop (mkF m 169 #[.val (.int i0), .val (.int i1), .val (.int i2), .val (.int i3), .val (.int i4), .val (.ref (n0 + ob5)), .val (.ref (n0 + ob6)), .val (.int i7), .val (.int i8), .val (.int i9), .val (.int i10), .val (.int i11), .val (.int i12), .val (.int i13), .val (.int i14), .val (.int i15), .val (.int i16), .val (.int i17), .val (.int i18), .val (.int i19), .unset, .unset, .unset, .unset] [(.int v32)])) _
    refine XS.istore X0.here hx rfl (hb hby at_169) rfl (l' := #[.val (.int i0), .val (.int i1), .val (.int i2), .val (.int i3), .val (.int i4), .val (.ref (n0 + ob5)), .val (.ref (n0 + ob6)), .val (.int i7), .val (.int i8), .val (.int i9), .val (.int i10), .val (.int i11), .val (.int i12), .val (.int i13), .val (.int i14), .val (.int i15), .val (.int i16), .val (.int i17), .val (.int i18), .val (.int i19), .val (.int v32), .unset, .unset, .unset]) rfl ?_
    show Steps p.tables e below (T0.setTop (mkF m 171 #[.val (.int i0), .val (.int i1), .val (.int i2), .val (.int i3), .val (.int i4), .val (.ref (n0 + ob5)), .val (.ref (n0 + ob6)), .val (.int i7), .val (.int i8), .val (.int i9), .val (.int i10), .val (.int i11), .val (.int i12), .val (.int i13), .val (.int i14), .val (.int i15), .val (.int i16), .val (.int i17), .val (.int i18), .val (.int i19), .val (.int v32), .unset, .unset, .unset] [])) _
    refine XS.iload X0.here hx rfl (hb hby at_171) rfl ?_
    show Steps p.tables e below (T0.setTop (mkF m 173 #[.val (.int i0), .val (.int i1), .val (.int i2), .val (.int i3), .val (.int i4), .val (.ref (n0 + ob5)), .val (.ref (n0 + ob6)), .val (.int i7), .val (.int i8), .val (.int i9), .val (.int i10), .val (.int i11), .val (.int i12), .val (.int i13), .val (.int i14), .val (.int i15), .val (.int i16), .val (.int i17), .val (.int i18), .val (.int i19), .val (.int v32), .unset, .unset, .unset] [(.int i4)])) _
    refine XS.iconst X0.here hx rfl (hb hby at_173) ?_
    show Steps p.tables e below (T0.setTop (mkF m 174 #[.val (.int i0), .val (.int i1), .val (.int i2), .val (.int i3), .val (.int i4), .val (.ref (n0 + ob5)), .val (.ref (n0 + ob6)), .val (.int i7), .val (.int i8), .val (.int i9), .val (.int i10), .val (.int i11), .val (.int i12), .val (.int i13), .val (.int i14), .val (.int i15), .val (.int i16), .val (.int i17), .val (.int i18), .val (.int i19), .val (.int v32), .unset, .unset, .unset] [(.int (3 : Int32)), (.int i4)])) _
    refine XS.iand X0.here hx rfl (hb hby at_174) rfl ?_
    show Steps p.tables e below (T0.setTop (mkF m 175 #[.val (.int i0), .val (.int i1), .val (.int i2), .val (.int i3), .val (.int i4), .val (.ref (n0 + ob5)), .val (.ref (n0 + ob6)), .val (.int i7), .val (.int i8), .val (.int i9), .val (.int i10), .val (.int i11), .val (.int i12), .val (.int i13), .val (.int i14), .val (.int i15), .val (.int i16), .val (.int i17), .val (.int i18), .val (.int i19), .val (.int v32), .unset, .unset, .unset] [(.int (i4 &&& (3 : Int32)))])) _
    refine own_to (congrArg (fun z => T0.setTop (mkF m 175 #[.val (.int i0), .val (.int i1), .val (.int i2), .val (.int i3), .val (.int i4), .val (.ref (n0 + ob5)), .val (.ref (n0 + ob6)), .val (.int i7), .val (.int i8), .val (.int i9), .val (.int i10), .val (.int i11), .val (.int i12), .val (.int i13), .val (.int i14), .val (.int i15), .val (.int i16), .val (.int i17), .val (.int i18), .val (.int i19), .val (.int v32), .unset, .unset, .unset] [(.int z)])) hv33) ?_
    show Steps p.tables e below (T0.setTop (mkF m 175 #[.val (.int i0), .val (.int i1), .val (.int i2), .val (.int i3), .val (.int i4), .val (.ref (n0 + ob5)), .val (.ref (n0 + ob6)), .val (.int i7), .val (.int i8), .val (.int i9), .val (.int i10), .val (.int i11), .val (.int i12), .val (.int i13), .val (.int i14), .val (.int i15), .val (.int i16), .val (.int i17), .val (.int i18), .val (.int i19), .val (.int v32), .unset, .unset, .unset] [(.int v33)])) _
    refine XS.istore X0.here hx rfl (hb hby at_175) rfl (l' := #[.val (.int i0), .val (.int i1), .val (.int i2), .val (.int i3), .val (.int i4), .val (.ref (n0 + ob5)), .val (.ref (n0 + ob6)), .val (.int i7), .val (.int i8), .val (.int i9), .val (.int i10), .val (.int i11), .val (.int i12), .val (.int i13), .val (.int i14), .val (.int i15), .val (.int i16), .val (.int i17), .val (.int i18), .val (.int i19), .val (.int v32), .val (.int v33), .unset, .unset]) rfl ?_
    show Steps p.tables e below (T0.setTop (mkF m 177 #[.val (.int i0), .val (.int i1), .val (.int i2), .val (.int i3), .val (.int i4), .val (.ref (n0 + ob5)), .val (.ref (n0 + ob6)), .val (.int i7), .val (.int i8), .val (.int i9), .val (.int i10), .val (.int i11), .val (.int i12), .val (.int i13), .val (.int i14), .val (.int i15), .val (.int i16), .val (.int i17), .val (.int i18), .val (.int i19), .val (.int v32), .val (.int v33), .unset, .unset] [])) _
    refine XS.aload X0.here hx rfl (hb hby at_177) rfl rfl ?_
    show Steps p.tables e below (T0.setTop (mkF m 179 #[.val (.int i0), .val (.int i1), .val (.int i2), .val (.int i3), .val (.int i4), .val (.ref (n0 + ob5)), .val (.ref (n0 + ob6)), .val (.int i7), .val (.int i8), .val (.int i9), .val (.int i10), .val (.int i11), .val (.int i12), .val (.int i13), .val (.int i14), .val (.int i15), .val (.int i16), .val (.int i17), .val (.int i18), .val (.int i19), .val (.int v32), .val (.int v33), .unset, .unset] [(.ref (n0 + ob5))])) _
    refine XS.iload X0.here hx rfl (hb hby at_179) rfl ?_
    show Steps p.tables e below (T0.setTop (mkF m 181 #[.val (.int i0), .val (.int i1), .val (.int i2), .val (.int i3), .val (.int i4), .val (.ref (n0 + ob5)), .val (.ref (n0 + ob6)), .val (.int i7), .val (.int i8), .val (.int i9), .val (.int i10), .val (.int i11), .val (.int i12), .val (.int i13), .val (.int i14), .val (.int i15), .val (.int i16), .val (.int i17), .val (.int i18), .val (.int i19), .val (.int v32), .val (.int v33), .unset, .unset] [(.int v32), (.ref (n0 + ob5))])) _
    refine st34 _ ?_
    show Steps p.tables e below (T34.setTop (mkF m 184 #[.val (.int i0), .val (.int i1), .val (.int i2), .val (.int i3), .val (.int i4), .val (.ref (n0 + ob5)), .val (.ref (n0 + ob6)), .val (.int i7), .val (.int i8), .val (.int i9), .val (.int i10), .val (.int i11), .val (.int i12), .val (.int i13), .val (.int i14), .val (.int i15), .val (.int i16), .val (.int i17), .val (.int i18), .val (.int i19), .val (.int v32), .val (.int v33), .unset, .unset] [(.int x36)])) _
    refine XS.istore X34.here hx rfl (hb hby at_184) rfl (l' := #[.val (.int i0), .val (.int i1), .val (.int i2), .val (.int i3), .val (.int i4), .val (.ref (n0 + ob5)), .val (.ref (n0 + ob6)), .val (.int i7), .val (.int i8), .val (.int i9), .val (.int i10), .val (.int i11), .val (.int i12), .val (.int i13), .val (.int i14), .val (.int i15), .val (.int i16), .val (.int i17), .val (.int i18), .val (.int i19), .val (.int v32), .val (.int v33), .val (.int x36), .unset]) rfl ?_
    show Steps p.tables e below (T34.setTop (mkF m 186 #[.val (.int i0), .val (.int i1), .val (.int i2), .val (.int i3), .val (.int i4), .val (.ref (n0 + ob5)), .val (.ref (n0 + ob6)), .val (.int i7), .val (.int i8), .val (.int i9), .val (.int i10), .val (.int i11), .val (.int i12), .val (.int i13), .val (.int i14), .val (.int i15), .val (.int i16), .val (.int i17), .val (.int i18), .val (.int i19), .val (.int v32), .val (.int v33), .val (.int x36), .unset] [])) _
    refine XS.aload X34.here hx rfl (hb hby at_186) rfl rfl ?_
    show Steps p.tables e below (T34.setTop (mkF m 188 #[.val (.int i0), .val (.int i1), .val (.int i2), .val (.int i3), .val (.int i4), .val (.ref (n0 + ob5)), .val (.ref (n0 + ob6)), .val (.int i7), .val (.int i8), .val (.int i9), .val (.int i10), .val (.int i11), .val (.int i12), .val (.int i13), .val (.int i14), .val (.int i15), .val (.int i16), .val (.int i17), .val (.int i18), .val (.int i19), .val (.int v32), .val (.int v33), .val (.int x36), .unset] [(.ref (n0 + ob5))])) _
    refine XS.iload X34.here hx rfl (hb hby at_188) rfl ?_
    show Steps p.tables e below (T34.setTop (mkF m 190 #[.val (.int i0), .val (.int i1), .val (.int i2), .val (.int i3), .val (.int i4), .val (.ref (n0 + ob5)), .val (.ref (n0 + ob6)), .val (.int i7), .val (.int i8), .val (.int i9), .val (.int i10), .val (.int i11), .val (.int i12), .val (.int i13), .val (.int i14), .val (.int i15), .val (.int i16), .val (.int i17), .val (.int i18), .val (.int i19), .val (.int v32), .val (.int v33), .val (.int x36), .unset] [(.int v33), (.ref (n0 + ob5))])) _
    refine st37 _ ?_
    show Steps p.tables e below (T37.setTop (mkF m 193 #[.val (.int i0), .val (.int i1), .val (.int i2), .val (.int i3), .val (.int i4), .val (.ref (n0 + ob5)), .val (.ref (n0 + ob6)), .val (.int i7), .val (.int i8), .val (.int i9), .val (.int i10), .val (.int i11), .val (.int i12), .val (.int i13), .val (.int i14), .val (.int i15), .val (.int i16), .val (.int i17), .val (.int i18), .val (.int i19), .val (.int v32), .val (.int v33), .val (.int x36), .unset] [(.int x39)])) _
    refine XS.istore X37.here hx rfl (hb hby at_193) rfl (l' := #[.val (.int i0), .val (.int i1), .val (.int i2), .val (.int i3), .val (.int i4), .val (.ref (n0 + ob5)), .val (.ref (n0 + ob6)), .val (.int i7), .val (.int i8), .val (.int i9), .val (.int i10), .val (.int i11), .val (.int i12), .val (.int i13), .val (.int i14), .val (.int i15), .val (.int i16), .val (.int i17), .val (.int i18), .val (.int i19), .val (.int v32), .val (.int v33), .val (.int x36), .val (.int x39)]) rfl ?_
    show Steps p.tables e below (T37.setTop (mkF m 195 #[.val (.int i0), .val (.int i1), .val (.int i2), .val (.int i3), .val (.int i4), .val (.ref (n0 + ob5)), .val (.ref (n0 + ob6)), .val (.int i7), .val (.int i8), .val (.int i9), .val (.int i10), .val (.int i11), .val (.int i12), .val (.int i13), .val (.int i14), .val (.int i15), .val (.int i16), .val (.int i17), .val (.int i18), .val (.int i19), .val (.int v32), .val (.int v33), .val (.int x36), .val (.int x39)] [])) _
    refine XS.iload X37.here hx rfl (hb hby at_195) rfl ?_
    exact k
  by_cases hc40 : x36 < (0 : Int32)
  · rw [if_pos hc40] at hf
    refine Gl.on (B := T37.setTop (mkF m 218 #[.val (.int i0), .val (.int i1), .val (.int i2), .val (.int i3), .val (.int i4), .val (.ref (n0 + ob5)), .val (.ref (n0 + ob6)), .val (.int i7), .val (.int i8), .val (.int i9), .val (.int i10), .val (.int i11), .val (.int i12), .val (.int i13), .val (.int i14), .val (.int i15), .val (.int i16), .val (.int i17), .val (.int i18), .val (.int i19), .val (.int v32), .val (.int v33), .val (.int x36), .val (.int x39)] [(.int (0 : Int32))])) (fun t k => ?_) ?_
    · show Steps p.tables e below (T37.setTop (mkF m 197 #[.val (.int i0), .val (.int i1), .val (.int i2), .val (.int i3), .val (.int i4), .val (.ref (n0 + ob5)), .val (.ref (n0 + ob6)), .val (.int i7), .val (.int i8), .val (.int i9), .val (.int i10), .val (.int i11), .val (.int i12), .val (.int i13), .val (.int i14), .val (.int i15), .val (.int i16), .val (.int i17), .val (.int i18), .val (.int i19), .val (.int v32), .val (.int v33), .val (.int x36), .val (.int x39)] [(.int x36)])) _
      refine XS.ifYes X37.here hx rfl (pc0 := 197) (pc' := 217) rfl (hb hby at_197) rfl ((if0 _ _).trans (tlt hc40).1) (by decide) (by decide) ?_
      show Steps p.tables e below (T37.setTop (mkF m 217 #[.val (.int i0), .val (.int i1), .val (.int i2), .val (.int i3), .val (.int i4), .val (.ref (n0 + ob5)), .val (.ref (n0 + ob6)), .val (.int i7), .val (.int i8), .val (.int i9), .val (.int i10), .val (.int i11), .val (.int i12), .val (.int i13), .val (.int i14), .val (.int i15), .val (.int i16), .val (.int i17), .val (.int i18), .val (.int i19), .val (.int v32), .val (.int v33), .val (.int x36), .val (.int x39)] [])) _
      refine XS.iconst X37.here hx rfl (hb hby at_217) ?_
      exact k
    obtain ⟨rfl, rfl⟩ := own_inj hf
    exact Gl.outN X37 hx hlk (t := .boolean) hret (by simp) (hb hby at_218) ⟨rfl, N37, by rw [e37]; exact O37⟩ (by show _ ≤ 16; omega) (by show _ ≤ 128; omega)
  · rw [if_neg hc40] at hf
    refine Gl.on (B := T37.setTop (mkF m 203 #[.val (.int i0), .val (.int i1), .val (.int i2), .val (.int i3), .val (.int i4), .val (.ref (n0 + ob5)), .val (.ref (n0 + ob6)), .val (.int i7), .val (.int i8), .val (.int i9), .val (.int i10), .val (.int i11), .val (.int i12), .val (.int i13), .val (.int i14), .val (.int i15), .val (.int i16), .val (.int i17), .val (.int i18), .val (.int i19), .val (.int v32), .val (.int v33), .val (.int x36), .val (.int x39)] [(.int (3 : Int32)), (.int x36)])) (fun t k => ?_) ?_
    · show Steps p.tables e below (T37.setTop (mkF m 197 #[.val (.int i0), .val (.int i1), .val (.int i2), .val (.int i3), .val (.int i4), .val (.ref (n0 + ob5)), .val (.ref (n0 + ob6)), .val (.int i7), .val (.int i8), .val (.int i9), .val (.int i10), .val (.int i11), .val (.int i12), .val (.int i13), .val (.int i14), .val (.int i15), .val (.int i16), .val (.int i17), .val (.int i18), .val (.int i19), .val (.int v32), .val (.int v33), .val (.int x36), .val (.int x39)] [(.int x36)])) _
      refine XS.ifNo X37.here hx rfl (hb hby at_197) rfl ((if0 _ _).trans (flt hc40).1) ?_
      show Steps p.tables e below (T37.setTop (mkF m 200 #[.val (.int i0), .val (.int i1), .val (.int i2), .val (.int i3), .val (.int i4), .val (.ref (n0 + ob5)), .val (.ref (n0 + ob6)), .val (.int i7), .val (.int i8), .val (.int i9), .val (.int i10), .val (.int i11), .val (.int i12), .val (.int i13), .val (.int i14), .val (.int i15), .val (.int i16), .val (.int i17), .val (.int i18), .val (.int i19), .val (.int v32), .val (.int v33), .val (.int x36), .val (.int x39)] [])) _
      refine XS.iload X37.here hx rfl (hb hby at_200) rfl ?_
      show Steps p.tables e below (T37.setTop (mkF m 202 #[.val (.int i0), .val (.int i1), .val (.int i2), .val (.int i3), .val (.int i4), .val (.ref (n0 + ob5)), .val (.ref (n0 + ob6)), .val (.int i7), .val (.int i8), .val (.int i9), .val (.int i10), .val (.int i11), .val (.int i12), .val (.int i13), .val (.int i14), .val (.int i15), .val (.int i16), .val (.int i17), .val (.int i18), .val (.int i19), .val (.int v32), .val (.int v33), .val (.int x36), .val (.int x39)] [(.int x36)])) _
      refine XS.iconst X37.here hx rfl (hb hby at_202) ?_
      exact k
    by_cases hc41 : (3 : Int32) < x36
    · rw [if_pos hc41] at hf
      refine Gl.on (B := T37.setTop (mkF m 218 #[.val (.int i0), .val (.int i1), .val (.int i2), .val (.int i3), .val (.int i4), .val (.ref (n0 + ob5)), .val (.ref (n0 + ob6)), .val (.int i7), .val (.int i8), .val (.int i9), .val (.int i10), .val (.int i11), .val (.int i12), .val (.int i13), .val (.int i14), .val (.int i15), .val (.int i16), .val (.int i17), .val (.int i18), .val (.int i19), .val (.int v32), .val (.int v33), .val (.int x36), .val (.int x39)] [(.int (0 : Int32))])) (fun t k => ?_) ?_
      · show Steps p.tables e below (T37.setTop (mkF m 203 #[.val (.int i0), .val (.int i1), .val (.int i2), .val (.int i3), .val (.int i4), .val (.ref (n0 + ob5)), .val (.ref (n0 + ob6)), .val (.int i7), .val (.int i8), .val (.int i9), .val (.int i10), .val (.int i11), .val (.int i12), .val (.int i13), .val (.int i14), .val (.int i15), .val (.int i16), .val (.int i17), .val (.int i18), .val (.int i19), .val (.int v32), .val (.int v33), .val (.int x36), .val (.int x39)] [(.int (3 : Int32)), (.int x36)])) _
        refine XS.icmpYes X37.here hx rfl (pc0 := 203) (pc' := 217) rfl (hb hby at_203) rfl (tlt hc41).2.2.1 (by decide) (by decide) ?_
        show Steps p.tables e below (T37.setTop (mkF m 217 #[.val (.int i0), .val (.int i1), .val (.int i2), .val (.int i3), .val (.int i4), .val (.ref (n0 + ob5)), .val (.ref (n0 + ob6)), .val (.int i7), .val (.int i8), .val (.int i9), .val (.int i10), .val (.int i11), .val (.int i12), .val (.int i13), .val (.int i14), .val (.int i15), .val (.int i16), .val (.int i17), .val (.int i18), .val (.int i19), .val (.int v32), .val (.int v33), .val (.int x36), .val (.int x39)] [])) _
        refine XS.iconst X37.here hx rfl (hb hby at_217) ?_
        exact k
      obtain ⟨rfl, rfl⟩ := own_inj hf
      exact Gl.outN X37 hx hlk (t := .boolean) hret (by simp) (hb hby at_218) ⟨rfl, N37, by rw [e37]; exact O37⟩ (by show _ ≤ 16; omega) (by show _ ≤ 128; omega)
    · rw [if_neg hc41] at hf
      refine Gl.on (B := T37.setTop (mkF m 208 #[.val (.int i0), .val (.int i1), .val (.int i2), .val (.int i3), .val (.int i4), .val (.ref (n0 + ob5)), .val (.ref (n0 + ob6)), .val (.int i7), .val (.int i8), .val (.int i9), .val (.int i10), .val (.int i11), .val (.int i12), .val (.int i13), .val (.int i14), .val (.int i15), .val (.int i16), .val (.int i17), .val (.int i18), .val (.int i19), .val (.int v32), .val (.int v33), .val (.int x36), .val (.int x39)] [(.int x39)])) (fun t k => ?_) ?_
      · show Steps p.tables e below (T37.setTop (mkF m 203 #[.val (.int i0), .val (.int i1), .val (.int i2), .val (.int i3), .val (.int i4), .val (.ref (n0 + ob5)), .val (.ref (n0 + ob6)), .val (.int i7), .val (.int i8), .val (.int i9), .val (.int i10), .val (.int i11), .val (.int i12), .val (.int i13), .val (.int i14), .val (.int i15), .val (.int i16), .val (.int i17), .val (.int i18), .val (.int i19), .val (.int v32), .val (.int v33), .val (.int x36), .val (.int x39)] [(.int (3 : Int32)), (.int x36)])) _
        refine XS.icmpNo X37.here hx rfl (hb hby at_203) rfl (flt hc41).2.2.1 ?_
        show Steps p.tables e below (T37.setTop (mkF m 206 #[.val (.int i0), .val (.int i1), .val (.int i2), .val (.int i3), .val (.int i4), .val (.ref (n0 + ob5)), .val (.ref (n0 + ob6)), .val (.int i7), .val (.int i8), .val (.int i9), .val (.int i10), .val (.int i11), .val (.int i12), .val (.int i13), .val (.int i14), .val (.int i15), .val (.int i16), .val (.int i17), .val (.int i18), .val (.int i19), .val (.int v32), .val (.int v33), .val (.int x36), .val (.int x39)] [])) _
        refine XS.iload X37.here hx rfl (hb hby at_206) rfl ?_
        exact k
      by_cases hc42 : x39 < (0 : Int32)
      · rw [if_pos hc42] at hf
        refine Gl.on (B := T37.setTop (mkF m 218 #[.val (.int i0), .val (.int i1), .val (.int i2), .val (.int i3), .val (.int i4), .val (.ref (n0 + ob5)), .val (.ref (n0 + ob6)), .val (.int i7), .val (.int i8), .val (.int i9), .val (.int i10), .val (.int i11), .val (.int i12), .val (.int i13), .val (.int i14), .val (.int i15), .val (.int i16), .val (.int i17), .val (.int i18), .val (.int i19), .val (.int v32), .val (.int v33), .val (.int x36), .val (.int x39)] [(.int (0 : Int32))])) (fun t k => ?_) ?_
        · show Steps p.tables e below (T37.setTop (mkF m 208 #[.val (.int i0), .val (.int i1), .val (.int i2), .val (.int i3), .val (.int i4), .val (.ref (n0 + ob5)), .val (.ref (n0 + ob6)), .val (.int i7), .val (.int i8), .val (.int i9), .val (.int i10), .val (.int i11), .val (.int i12), .val (.int i13), .val (.int i14), .val (.int i15), .val (.int i16), .val (.int i17), .val (.int i18), .val (.int i19), .val (.int v32), .val (.int v33), .val (.int x36), .val (.int x39)] [(.int x39)])) _
          refine XS.ifYes X37.here hx rfl (pc0 := 208) (pc' := 217) rfl (hb hby at_208) rfl ((if0 _ _).trans (tlt hc42).1) (by decide) (by decide) ?_
          show Steps p.tables e below (T37.setTop (mkF m 217 #[.val (.int i0), .val (.int i1), .val (.int i2), .val (.int i3), .val (.int i4), .val (.ref (n0 + ob5)), .val (.ref (n0 + ob6)), .val (.int i7), .val (.int i8), .val (.int i9), .val (.int i10), .val (.int i11), .val (.int i12), .val (.int i13), .val (.int i14), .val (.int i15), .val (.int i16), .val (.int i17), .val (.int i18), .val (.int i19), .val (.int v32), .val (.int v33), .val (.int x36), .val (.int x39)] [])) _
          refine XS.iconst X37.here hx rfl (hb hby at_217) ?_
          exact k
        obtain ⟨rfl, rfl⟩ := own_inj hf
        exact Gl.outN X37 hx hlk (t := .boolean) hret (by simp) (hb hby at_218) ⟨rfl, N37, by rw [e37]; exact O37⟩ (by show _ ≤ 16; omega) (by show _ ≤ 128; omega)
      · rw [if_neg hc42] at hf
        refine Gl.on (B := T37.setTop (mkF m 214 #[.val (.int i0), .val (.int i1), .val (.int i2), .val (.int i3), .val (.int i4), .val (.ref (n0 + ob5)), .val (.ref (n0 + ob6)), .val (.int i7), .val (.int i8), .val (.int i9), .val (.int i10), .val (.int i11), .val (.int i12), .val (.int i13), .val (.int i14), .val (.int i15), .val (.int i16), .val (.int i17), .val (.int i18), .val (.int i19), .val (.int v32), .val (.int v33), .val (.int x36), .val (.int x39)] [(.int (3 : Int32)), (.int x39)])) (fun t k => ?_) ?_
        · show Steps p.tables e below (T37.setTop (mkF m 208 #[.val (.int i0), .val (.int i1), .val (.int i2), .val (.int i3), .val (.int i4), .val (.ref (n0 + ob5)), .val (.ref (n0 + ob6)), .val (.int i7), .val (.int i8), .val (.int i9), .val (.int i10), .val (.int i11), .val (.int i12), .val (.int i13), .val (.int i14), .val (.int i15), .val (.int i16), .val (.int i17), .val (.int i18), .val (.int i19), .val (.int v32), .val (.int v33), .val (.int x36), .val (.int x39)] [(.int x39)])) _
          refine XS.ifNo X37.here hx rfl (hb hby at_208) rfl ((if0 _ _).trans (flt hc42).1) ?_
          show Steps p.tables e below (T37.setTop (mkF m 211 #[.val (.int i0), .val (.int i1), .val (.int i2), .val (.int i3), .val (.int i4), .val (.ref (n0 + ob5)), .val (.ref (n0 + ob6)), .val (.int i7), .val (.int i8), .val (.int i9), .val (.int i10), .val (.int i11), .val (.int i12), .val (.int i13), .val (.int i14), .val (.int i15), .val (.int i16), .val (.int i17), .val (.int i18), .val (.int i19), .val (.int v32), .val (.int v33), .val (.int x36), .val (.int x39)] [])) _
          refine XS.iload X37.here hx rfl (hb hby at_211) rfl ?_
          show Steps p.tables e below (T37.setTop (mkF m 213 #[.val (.int i0), .val (.int i1), .val (.int i2), .val (.int i3), .val (.int i4), .val (.ref (n0 + ob5)), .val (.ref (n0 + ob6)), .val (.int i7), .val (.int i8), .val (.int i9), .val (.int i10), .val (.int i11), .val (.int i12), .val (.int i13), .val (.int i14), .val (.int i15), .val (.int i16), .val (.int i17), .val (.int i18), .val (.int i19), .val (.int v32), .val (.int v33), .val (.int x36), .val (.int x39)] [(.int x39)])) _
          refine XS.iconst X37.here hx rfl (hb hby at_213) ?_
          exact k
        by_cases hc43 : (3 : Int32) < x39
        · rw [if_pos hc43] at hf
          refine Gl.on (B := T37.setTop (mkF m 218 #[.val (.int i0), .val (.int i1), .val (.int i2), .val (.int i3), .val (.int i4), .val (.ref (n0 + ob5)), .val (.ref (n0 + ob6)), .val (.int i7), .val (.int i8), .val (.int i9), .val (.int i10), .val (.int i11), .val (.int i12), .val (.int i13), .val (.int i14), .val (.int i15), .val (.int i16), .val (.int i17), .val (.int i18), .val (.int i19), .val (.int v32), .val (.int v33), .val (.int x36), .val (.int x39)] [(.int (0 : Int32))])) (fun t k => ?_) ?_
          · show Steps p.tables e below (T37.setTop (mkF m 214 #[.val (.int i0), .val (.int i1), .val (.int i2), .val (.int i3), .val (.int i4), .val (.ref (n0 + ob5)), .val (.ref (n0 + ob6)), .val (.int i7), .val (.int i8), .val (.int i9), .val (.int i10), .val (.int i11), .val (.int i12), .val (.int i13), .val (.int i14), .val (.int i15), .val (.int i16), .val (.int i17), .val (.int i18), .val (.int i19), .val (.int v32), .val (.int v33), .val (.int x36), .val (.int x39)] [(.int (3 : Int32)), (.int x39)])) _
            refine XS.icmpNo X37.here hx rfl (hb hby at_214) rfl (tlt hc43).2.2.2 ?_
            show Steps p.tables e below (T37.setTop (mkF m 217 #[.val (.int i0), .val (.int i1), .val (.int i2), .val (.int i3), .val (.int i4), .val (.ref (n0 + ob5)), .val (.ref (n0 + ob6)), .val (.int i7), .val (.int i8), .val (.int i9), .val (.int i10), .val (.int i11), .val (.int i12), .val (.int i13), .val (.int i14), .val (.int i15), .val (.int i16), .val (.int i17), .val (.int i18), .val (.int i19), .val (.int v32), .val (.int v33), .val (.int x36), .val (.int x39)] [])) _
            refine XS.iconst X37.here hx rfl (hb hby at_217) ?_
            exact k
          obtain ⟨rfl, rfl⟩ := own_inj hf
          exact Gl.outN X37 hx hlk (t := .boolean) hret (by simp) (hb hby at_218) ⟨rfl, N37, by rw [e37]; exact O37⟩ (by show _ ≤ 16; omega) (by show _ ≤ 128; omega)
        · rw [if_neg hc43] at hf
          obtain ⟨x44, hx44, hf⟩ := own_bind hf
          obtain ⟨x45, hx45, hf⟩ := own_bind hf
          refine Gl.on (B := T37.setTop (mkF m 229 #[.val (.int i0), .val (.int i1), .val (.int i2), .val (.int i3), .val (.int i4), .val (.ref (n0 + ob5)), .val (.ref (n0 + ob6)), .val (.int i7), .val (.int i8), .val (.int i9), .val (.int i10), .val (.int i11), .val (.int i12), .val (.int i13), .val (.int i14), .val (.int i15), .val (.int i16), .val (.int i17), .val (.int i18), .val (.int i19), .val (.int v32), .val (.int v33), .val (.int x36), .val (.int x39)] [(.int x45), (.int x44)])) (fun t k => ?_) ?_
          · show Steps p.tables e below (T37.setTop (mkF m 214 #[.val (.int i0), .val (.int i1), .val (.int i2), .val (.int i3), .val (.int i4), .val (.ref (n0 + ob5)), .val (.ref (n0 + ob6)), .val (.int i7), .val (.int i8), .val (.int i9), .val (.int i10), .val (.int i11), .val (.int i12), .val (.int i13), .val (.int i14), .val (.int i15), .val (.int i16), .val (.int i17), .val (.int i18), .val (.int i19), .val (.int v32), .val (.int v33), .val (.int x36), .val (.int x39)] [(.int (3 : Int32)), (.int x39)])) _
            refine XS.icmpYes X37.here hx rfl (pc0 := 214) (pc' := 219) rfl (hb hby at_214) rfl (flt hc43).2.2.2 (by decide) (by decide) ?_
            show Steps p.tables e below (T37.setTop (mkF m 219 #[.val (.int i0), .val (.int i1), .val (.int i2), .val (.int i3), .val (.int i4), .val (.ref (n0 + ob5)), .val (.ref (n0 + ob6)), .val (.int i7), .val (.int i8), .val (.int i9), .val (.int i10), .val (.int i11), .val (.int i12), .val (.int i13), .val (.int i14), .val (.int i15), .val (.int i16), .val (.int i17), .val (.int i18), .val (.int i19), .val (.int v32), .val (.int v33), .val (.int x36), .val (.int x39)] [])) _
            refine XS.aload X37.here hx rfl (hb hby at_219) rfl rfl ?_
            show Steps p.tables e below (T37.setTop (mkF m 221 #[.val (.int i0), .val (.int i1), .val (.int i2), .val (.int i3), .val (.int i4), .val (.ref (n0 + ob5)), .val (.ref (n0 + ob6)), .val (.int i7), .val (.int i8), .val (.int i9), .val (.int i10), .val (.int i11), .val (.int i12), .val (.int i13), .val (.int i14), .val (.int i15), .val (.int i16), .val (.int i17), .val (.int i18), .val (.int i19), .val (.int v32), .val (.int v33), .val (.int x36), .val (.int x39)] [(.ref (n0 + ob6))])) _
            refine XS.iload X37.here hx rfl (hb hby at_221) rfl ?_
            show Steps p.tables e below (T37.setTop (mkF m 223 #[.val (.int i0), .val (.int i1), .val (.int i2), .val (.int i3), .val (.int i4), .val (.ref (n0 + ob5)), .val (.ref (n0 + ob6)), .val (.int i7), .val (.int i8), .val (.int i9), .val (.int i10), .val (.int i11), .val (.int i12), .val (.int i13), .val (.int i14), .val (.int i15), .val (.int i16), .val (.int i17), .val (.int i18), .val (.int i19), .val (.int v32), .val (.int v33), .val (.int x36), .val (.int x39)] [(.int x36), (.ref (n0 + ob6))])) _
            refine ldW X37 hx hZ e37 O37 hx44 rfl (g := (mkF m 223 #[.val (.int i0), .val (.int i1), .val (.int i2), .val (.int i3), .val (.int i4), .val (.ref (n0 + ob5)), .val (.ref (n0 + ob6)), .val (.int i7), .val (.int i8), .val (.int i9), .val (.int i10), .val (.int i11), .val (.int i12), .val (.int i13), .val (.int i14), .val (.int i15), .val (.int i16), .val (.int i17), .val (.int i18), .val (.int i19), .val (.int v32), .val (.int v33), .val (.int x36), .val (.int x39)] [(.int x36), (.ref (n0 + ob6))])) rfl rfl (hb hby at_223) _ ?_
            show Steps p.tables e below (T37.setTop (mkF m 224 #[.val (.int i0), .val (.int i1), .val (.int i2), .val (.int i3), .val (.int i4), .val (.ref (n0 + ob5)), .val (.ref (n0 + ob6)), .val (.int i7), .val (.int i8), .val (.int i9), .val (.int i10), .val (.int i11), .val (.int i12), .val (.int i13), .val (.int i14), .val (.int i15), .val (.int i16), .val (.int i17), .val (.int i18), .val (.int i19), .val (.int v32), .val (.int v33), .val (.int x36), .val (.int x39)] [(.int x44)])) _
            refine XS.aload X37.here hx rfl (hb hby at_224) rfl rfl ?_
            show Steps p.tables e below (T37.setTop (mkF m 226 #[.val (.int i0), .val (.int i1), .val (.int i2), .val (.int i3), .val (.int i4), .val (.ref (n0 + ob5)), .val (.ref (n0 + ob6)), .val (.int i7), .val (.int i8), .val (.int i9), .val (.int i10), .val (.int i11), .val (.int i12), .val (.int i13), .val (.int i14), .val (.int i15), .val (.int i16), .val (.int i17), .val (.int i18), .val (.int i19), .val (.int v32), .val (.int v33), .val (.int x36), .val (.int x39)] [(.ref (n0 + ob6)), (.int x44)])) _
            refine XS.iload X37.here hx rfl (hb hby at_226) rfl ?_
            show Steps p.tables e below (T37.setTop (mkF m 228 #[.val (.int i0), .val (.int i1), .val (.int i2), .val (.int i3), .val (.int i4), .val (.ref (n0 + ob5)), .val (.ref (n0 + ob6)), .val (.int i7), .val (.int i8), .val (.int i9), .val (.int i10), .val (.int i11), .val (.int i12), .val (.int i13), .val (.int i14), .val (.int i15), .val (.int i16), .val (.int i17), .val (.int i18), .val (.int i19), .val (.int v32), .val (.int v33), .val (.int x36), .val (.int x39)] [(.int v32), (.ref (n0 + ob6)), (.int x44)])) _
            refine ldW X37 hx hZ e37 O37 hx45 rfl (g := (mkF m 228 #[.val (.int i0), .val (.int i1), .val (.int i2), .val (.int i3), .val (.int i4), .val (.ref (n0 + ob5)), .val (.ref (n0 + ob6)), .val (.int i7), .val (.int i8), .val (.int i9), .val (.int i10), .val (.int i11), .val (.int i12), .val (.int i13), .val (.int i14), .val (.int i15), .val (.int i16), .val (.int i17), .val (.int i18), .val (.int i19), .val (.int v32), .val (.int v33), .val (.int x36), .val (.int x39)] [(.int v32), (.ref (n0 + ob6)), (.int x44)])) rfl rfl (hb hby at_228) _ ?_
            exact k
          by_cases hc46 : x44 = x45
          · rw [if_pos hc46] at hf
            obtain ⟨x47, hx47, hf⟩ := own_bind hf
            obtain ⟨x48, hx48, hf⟩ := own_bind hf
            refine Gl.on (B := T37.setTop (mkF m 242 #[.val (.int i0), .val (.int i1), .val (.int i2), .val (.int i3), .val (.int i4), .val (.ref (n0 + ob5)), .val (.ref (n0 + ob6)), .val (.int i7), .val (.int i8), .val (.int i9), .val (.int i10), .val (.int i11), .val (.int i12), .val (.int i13), .val (.int i14), .val (.int i15), .val (.int i16), .val (.int i17), .val (.int i18), .val (.int i19), .val (.int v32), .val (.int v33), .val (.int x36), .val (.int x39)] [(.int x48), (.int x47)])) (fun t k => ?_) ?_
            · show Steps p.tables e below (T37.setTop (mkF m 229 #[.val (.int i0), .val (.int i1), .val (.int i2), .val (.int i3), .val (.int i4), .val (.ref (n0 + ob5)), .val (.ref (n0 + ob6)), .val (.int i7), .val (.int i8), .val (.int i9), .val (.int i10), .val (.int i11), .val (.int i12), .val (.int i13), .val (.int i14), .val (.int i15), .val (.int i16), .val (.int i17), .val (.int i18), .val (.int i19), .val (.int v32), .val (.int v33), .val (.int x36), .val (.int x39)] [(.int x45), (.int x44)])) _
              refine XS.icmpNo X37.here hx rfl (hb hby at_229) rfl (teq hc46).2 ?_
              show Steps p.tables e below (T37.setTop (mkF m 232 #[.val (.int i0), .val (.int i1), .val (.int i2), .val (.int i3), .val (.int i4), .val (.ref (n0 + ob5)), .val (.ref (n0 + ob6)), .val (.int i7), .val (.int i8), .val (.int i9), .val (.int i10), .val (.int i11), .val (.int i12), .val (.int i13), .val (.int i14), .val (.int i15), .val (.int i16), .val (.int i17), .val (.int i18), .val (.int i19), .val (.int v32), .val (.int v33), .val (.int x36), .val (.int x39)] [])) _
              refine XS.aload X37.here hx rfl (hb hby at_232) rfl rfl ?_
              show Steps p.tables e below (T37.setTop (mkF m 234 #[.val (.int i0), .val (.int i1), .val (.int i2), .val (.int i3), .val (.int i4), .val (.ref (n0 + ob5)), .val (.ref (n0 + ob6)), .val (.int i7), .val (.int i8), .val (.int i9), .val (.int i10), .val (.int i11), .val (.int i12), .val (.int i13), .val (.int i14), .val (.int i15), .val (.int i16), .val (.int i17), .val (.int i18), .val (.int i19), .val (.int v32), .val (.int v33), .val (.int x36), .val (.int x39)] [(.ref (n0 + ob6))])) _
              refine XS.iload X37.here hx rfl (hb hby at_234) rfl ?_
              show Steps p.tables e below (T37.setTop (mkF m 236 #[.val (.int i0), .val (.int i1), .val (.int i2), .val (.int i3), .val (.int i4), .val (.ref (n0 + ob5)), .val (.ref (n0 + ob6)), .val (.int i7), .val (.int i8), .val (.int i9), .val (.int i10), .val (.int i11), .val (.int i12), .val (.int i13), .val (.int i14), .val (.int i15), .val (.int i16), .val (.int i17), .val (.int i18), .val (.int i19), .val (.int v32), .val (.int v33), .val (.int x36), .val (.int x39)] [(.int x39), (.ref (n0 + ob6))])) _
              refine ldW X37 hx hZ e37 O37 hx47 rfl (g := (mkF m 236 #[.val (.int i0), .val (.int i1), .val (.int i2), .val (.int i3), .val (.int i4), .val (.ref (n0 + ob5)), .val (.ref (n0 + ob6)), .val (.int i7), .val (.int i8), .val (.int i9), .val (.int i10), .val (.int i11), .val (.int i12), .val (.int i13), .val (.int i14), .val (.int i15), .val (.int i16), .val (.int i17), .val (.int i18), .val (.int i19), .val (.int v32), .val (.int v33), .val (.int x36), .val (.int x39)] [(.int x39), (.ref (n0 + ob6))])) rfl rfl (hb hby at_236) _ ?_
              show Steps p.tables e below (T37.setTop (mkF m 237 #[.val (.int i0), .val (.int i1), .val (.int i2), .val (.int i3), .val (.int i4), .val (.ref (n0 + ob5)), .val (.ref (n0 + ob6)), .val (.int i7), .val (.int i8), .val (.int i9), .val (.int i10), .val (.int i11), .val (.int i12), .val (.int i13), .val (.int i14), .val (.int i15), .val (.int i16), .val (.int i17), .val (.int i18), .val (.int i19), .val (.int v32), .val (.int v33), .val (.int x36), .val (.int x39)] [(.int x47)])) _
              refine XS.aload X37.here hx rfl (hb hby at_237) rfl rfl ?_
              show Steps p.tables e below (T37.setTop (mkF m 239 #[.val (.int i0), .val (.int i1), .val (.int i2), .val (.int i3), .val (.int i4), .val (.ref (n0 + ob5)), .val (.ref (n0 + ob6)), .val (.int i7), .val (.int i8), .val (.int i9), .val (.int i10), .val (.int i11), .val (.int i12), .val (.int i13), .val (.int i14), .val (.int i15), .val (.int i16), .val (.int i17), .val (.int i18), .val (.int i19), .val (.int v32), .val (.int v33), .val (.int x36), .val (.int x39)] [(.ref (n0 + ob6)), (.int x47)])) _
              refine XS.iload X37.here hx rfl (hb hby at_239) rfl ?_
              show Steps p.tables e below (T37.setTop (mkF m 241 #[.val (.int i0), .val (.int i1), .val (.int i2), .val (.int i3), .val (.int i4), .val (.ref (n0 + ob5)), .val (.ref (n0 + ob6)), .val (.int i7), .val (.int i8), .val (.int i9), .val (.int i10), .val (.int i11), .val (.int i12), .val (.int i13), .val (.int i14), .val (.int i15), .val (.int i16), .val (.int i17), .val (.int i18), .val (.int i19), .val (.int v32), .val (.int v33), .val (.int x36), .val (.int x39)] [(.int v33), (.ref (n0 + ob6)), (.int x47)])) _
              refine ldW X37 hx hZ e37 O37 hx48 rfl (g := (mkF m 241 #[.val (.int i0), .val (.int i1), .val (.int i2), .val (.int i3), .val (.int i4), .val (.ref (n0 + ob5)), .val (.ref (n0 + ob6)), .val (.int i7), .val (.int i8), .val (.int i9), .val (.int i10), .val (.int i11), .val (.int i12), .val (.int i13), .val (.int i14), .val (.int i15), .val (.int i16), .val (.int i17), .val (.int i18), .val (.int i19), .val (.int v32), .val (.int v33), .val (.int x36), .val (.int x39)] [(.int v33), (.ref (n0 + ob6)), (.int x47)])) rfl rfl (hb hby at_241) _ ?_
              exact k
            by_cases hc49 : x47 = x48
            · rw [if_pos hc49] at hf
              refine Gl.on (B := T37.setTop (mkF m 251 #[.val (.int i0), .val (.int i1), .val (.int i2), .val (.int i3), .val (.int i4), .val (.ref (n0 + ob5)), .val (.ref (n0 + ob6)), .val (.int i7), .val (.int i8), .val (.int i9), .val (.int i10), .val (.int i11), .val (.int i12), .val (.int i13), .val (.int i14), .val (.int i15), .val (.int i16), .val (.int i17), .val (.int i18), .val (.int i19), .val (.int v32), .val (.int v33), .val (.int x36), .val (.int x39)] [(.int x39), (.int x36)])) (fun t k => ?_) ?_
              · show Steps p.tables e below (T37.setTop (mkF m 242 #[.val (.int i0), .val (.int i1), .val (.int i2), .val (.int i3), .val (.int i4), .val (.ref (n0 + ob5)), .val (.ref (n0 + ob6)), .val (.int i7), .val (.int i8), .val (.int i9), .val (.int i10), .val (.int i11), .val (.int i12), .val (.int i13), .val (.int i14), .val (.int i15), .val (.int i16), .val (.int i17), .val (.int i18), .val (.int i19), .val (.int v32), .val (.int v33), .val (.int x36), .val (.int x39)] [(.int x48), (.int x47)])) _
                refine XS.icmpYes X37.here hx rfl (pc0 := 242) (pc' := 247) rfl (hb hby at_242) rfl (teq hc49).1 (by decide) (by decide) ?_
                show Steps p.tables e below (T37.setTop (mkF m 247 #[.val (.int i0), .val (.int i1), .val (.int i2), .val (.int i3), .val (.int i4), .val (.ref (n0 + ob5)), .val (.ref (n0 + ob6)), .val (.int i7), .val (.int i8), .val (.int i9), .val (.int i10), .val (.int i11), .val (.int i12), .val (.int i13), .val (.int i14), .val (.int i15), .val (.int i16), .val (.int i17), .val (.int i18), .val (.int i19), .val (.int v32), .val (.int v33), .val (.int x36), .val (.int x39)] [])) _
                refine XS.iload X37.here hx rfl (hb hby at_247) rfl ?_
                show Steps p.tables e below (T37.setTop (mkF m 249 #[.val (.int i0), .val (.int i1), .val (.int i2), .val (.int i3), .val (.int i4), .val (.ref (n0 + ob5)), .val (.ref (n0 + ob6)), .val (.int i7), .val (.int i8), .val (.int i9), .val (.int i10), .val (.int i11), .val (.int i12), .val (.int i13), .val (.int i14), .val (.int i15), .val (.int i16), .val (.int i17), .val (.int i18), .val (.int i19), .val (.int v32), .val (.int v33), .val (.int x36), .val (.int x39)] [(.int x36)])) _
                refine XS.iload X37.here hx rfl (hb hby at_249) rfl ?_
                exact k
              by_cases hc50 : x36 = x39
              · rw [if_pos hc50] at hf
                refine Gl.on (B := T37.setTop (mkF m 259 #[.val (.int i0), .val (.int i1), .val (.int i2), .val (.int i3), .val (.int i4), .val (.ref (n0 + ob5)), .val (.ref (n0 + ob6)), .val (.int i7), .val (.int i8), .val (.int i9), .val (.int i10), .val (.int i11), .val (.int i12), .val (.int i13), .val (.int i14), .val (.int i15), .val (.int i16), .val (.int i17), .val (.int i18), .val (.int i19), .val (.int v32), .val (.int v33), .val (.int x36), .val (.int x39)] [(.int (1 : Int32))])) (fun t k => ?_) ?_
                · show Steps p.tables e below (T37.setTop (mkF m 251 #[.val (.int i0), .val (.int i1), .val (.int i2), .val (.int i3), .val (.int i4), .val (.ref (n0 + ob5)), .val (.ref (n0 + ob6)), .val (.int i7), .val (.int i8), .val (.int i9), .val (.int i10), .val (.int i11), .val (.int i12), .val (.int i13), .val (.int i14), .val (.int i15), .val (.int i16), .val (.int i17), .val (.int i18), .val (.int i19), .val (.int v32), .val (.int v33), .val (.int x36), .val (.int x39)] [(.int x39), (.int x36)])) _
                  refine XS.icmpNo X37.here hx rfl (hb hby at_251) rfl (teq hc50).2 ?_
                  show Steps p.tables e below (T37.setTop (mkF m 254 #[.val (.int i0), .val (.int i1), .val (.int i2), .val (.int i3), .val (.int i4), .val (.ref (n0 + ob5)), .val (.ref (n0 + ob6)), .val (.int i7), .val (.int i8), .val (.int i9), .val (.int i10), .val (.int i11), .val (.int i12), .val (.int i13), .val (.int i14), .val (.int i15), .val (.int i16), .val (.int i17), .val (.int i18), .val (.int i19), .val (.int v32), .val (.int v33), .val (.int x36), .val (.int x39)] [])) _
                  refine XS.iconst X37.here hx rfl (hb hby at_254) ?_
                  show Steps p.tables e below (T37.setTop (mkF m 255 #[.val (.int i0), .val (.int i1), .val (.int i2), .val (.int i3), .val (.int i4), .val (.ref (n0 + ob5)), .val (.ref (n0 + ob6)), .val (.int i7), .val (.int i8), .val (.int i9), .val (.int i10), .val (.int i11), .val (.int i12), .val (.int i13), .val (.int i14), .val (.int i15), .val (.int i16), .val (.int i17), .val (.int i18), .val (.int i19), .val (.int v32), .val (.int v33), .val (.int x36), .val (.int x39)] [(.int (1 : Int32))])) _
                  refine XS.goto X37.here hx rfl (pc0 := 255) (pc' := 259) rfl (hb hby at_255) (by decide) (by decide) ?_
                  exact k
                exact bt0_259 hw hC X37 e37 O37 N37 (by omega) (by omega) hf
              · rw [if_neg hc50] at hf
                refine Gl.on (B := T37.setTop (mkF m 259 #[.val (.int i0), .val (.int i1), .val (.int i2), .val (.int i3), .val (.int i4), .val (.ref (n0 + ob5)), .val (.ref (n0 + ob6)), .val (.int i7), .val (.int i8), .val (.int i9), .val (.int i10), .val (.int i11), .val (.int i12), .val (.int i13), .val (.int i14), .val (.int i15), .val (.int i16), .val (.int i17), .val (.int i18), .val (.int i19), .val (.int v32), .val (.int v33), .val (.int x36), .val (.int x39)] [(.int (0 : Int32))])) (fun t k => ?_) ?_
                · show Steps p.tables e below (T37.setTop (mkF m 251 #[.val (.int i0), .val (.int i1), .val (.int i2), .val (.int i3), .val (.int i4), .val (.ref (n0 + ob5)), .val (.ref (n0 + ob6)), .val (.int i7), .val (.int i8), .val (.int i9), .val (.int i10), .val (.int i11), .val (.int i12), .val (.int i13), .val (.int i14), .val (.int i15), .val (.int i16), .val (.int i17), .val (.int i18), .val (.int i19), .val (.int v32), .val (.int v33), .val (.int x36), .val (.int x39)] [(.int x39), (.int x36)])) _
                  refine XS.icmpYes X37.here hx rfl (pc0 := 251) (pc' := 258) rfl (hb hby at_251) rfl (feq hc50).2 (by decide) (by decide) ?_
                  show Steps p.tables e below (T37.setTop (mkF m 258 #[.val (.int i0), .val (.int i1), .val (.int i2), .val (.int i3), .val (.int i4), .val (.ref (n0 + ob5)), .val (.ref (n0 + ob6)), .val (.int i7), .val (.int i8), .val (.int i9), .val (.int i10), .val (.int i11), .val (.int i12), .val (.int i13), .val (.int i14), .val (.int i15), .val (.int i16), .val (.int i17), .val (.int i18), .val (.int i19), .val (.int v32), .val (.int v33), .val (.int x36), .val (.int x39)] [])) _
                  refine XS.iconst X37.here hx rfl (hb hby at_258) ?_
                  exact k
                exact bt0_259 hw hC X37 e37 O37 N37 (by omega) (by omega) hf
            · rw [if_neg hc49] at hf
              refine Gl.on (B := T37.setTop (mkF m 246 #[.val (.int i0), .val (.int i1), .val (.int i2), .val (.int i3), .val (.int i4), .val (.ref (n0 + ob5)), .val (.ref (n0 + ob6)), .val (.int i7), .val (.int i8), .val (.int i9), .val (.int i10), .val (.int i11), .val (.int i12), .val (.int i13), .val (.int i14), .val (.int i15), .val (.int i16), .val (.int i17), .val (.int i18), .val (.int i19), .val (.int v32), .val (.int v33), .val (.int x36), .val (.int x39)] [(.int (0 : Int32))])) (fun t k => ?_) ?_
              · show Steps p.tables e below (T37.setTop (mkF m 242 #[.val (.int i0), .val (.int i1), .val (.int i2), .val (.int i3), .val (.int i4), .val (.ref (n0 + ob5)), .val (.ref (n0 + ob6)), .val (.int i7), .val (.int i8), .val (.int i9), .val (.int i10), .val (.int i11), .val (.int i12), .val (.int i13), .val (.int i14), .val (.int i15), .val (.int i16), .val (.int i17), .val (.int i18), .val (.int i19), .val (.int v32), .val (.int v33), .val (.int x36), .val (.int x39)] [(.int x48), (.int x47)])) _
                refine XS.icmpNo X37.here hx rfl (hb hby at_242) rfl (feq hc49).1 ?_
                show Steps p.tables e below (T37.setTop (mkF m 245 #[.val (.int i0), .val (.int i1), .val (.int i2), .val (.int i3), .val (.int i4), .val (.ref (n0 + ob5)), .val (.ref (n0 + ob6)), .val (.int i7), .val (.int i8), .val (.int i9), .val (.int i10), .val (.int i11), .val (.int i12), .val (.int i13), .val (.int i14), .val (.int i15), .val (.int i16), .val (.int i17), .val (.int i18), .val (.int i19), .val (.int v32), .val (.int v33), .val (.int x36), .val (.int x39)] [])) _
                refine XS.iconst X37.here hx rfl (hb hby at_245) ?_
                exact k
              obtain ⟨rfl, rfl⟩ := own_inj hf
              exact Gl.outN X37 hx hlk (t := .boolean) hret (by simp) (hb hby at_246) ⟨rfl, N37, by rw [e37]; exact O37⟩ (by show _ ≤ 16; omega) (by show _ ≤ 128; omega)
          · rw [if_neg hc46] at hf
            refine Gl.on (B := T37.setTop (mkF m 246 #[.val (.int i0), .val (.int i1), .val (.int i2), .val (.int i3), .val (.int i4), .val (.ref (n0 + ob5)), .val (.ref (n0 + ob6)), .val (.int i7), .val (.int i8), .val (.int i9), .val (.int i10), .val (.int i11), .val (.int i12), .val (.int i13), .val (.int i14), .val (.int i15), .val (.int i16), .val (.int i17), .val (.int i18), .val (.int i19), .val (.int v32), .val (.int v33), .val (.int x36), .val (.int x39)] [(.int (0 : Int32))])) (fun t k => ?_) ?_
            · show Steps p.tables e below (T37.setTop (mkF m 229 #[.val (.int i0), .val (.int i1), .val (.int i2), .val (.int i3), .val (.int i4), .val (.ref (n0 + ob5)), .val (.ref (n0 + ob6)), .val (.int i7), .val (.int i8), .val (.int i9), .val (.int i10), .val (.int i11), .val (.int i12), .val (.int i13), .val (.int i14), .val (.int i15), .val (.int i16), .val (.int i17), .val (.int i18), .val (.int i19), .val (.int v32), .val (.int v33), .val (.int x36), .val (.int x39)] [(.int x45), (.int x44)])) _
              refine XS.icmpYes X37.here hx rfl (pc0 := 229) (pc' := 245) rfl (hb hby at_229) rfl (feq hc46).2 (by decide) (by decide) ?_
              show Steps p.tables e below (T37.setTop (mkF m 245 #[.val (.int i0), .val (.int i1), .val (.int i2), .val (.int i3), .val (.int i4), .val (.ref (n0 + ob5)), .val (.ref (n0 + ob6)), .val (.int i7), .val (.int i8), .val (.int i9), .val (.int i10), .val (.int i11), .val (.int i12), .val (.int i13), .val (.int i14), .val (.int i15), .val (.int i16), .val (.int i17), .val (.int i18), .val (.int i19), .val (.int v32), .val (.int v33), .val (.int x36), .val (.int x39)] [])) _
              refine XS.iconst X37.here hx rfl (hb hby at_245) ?_
              exact k
            obtain ⟨rfl, rfl⟩ := own_inj hf
            exact Gl.outN X37 hx hlk (t := .boolean) hret (by simp) (hb hby at_246) ⟨rfl, N37, by rw [e37]; exact O37⟩ (by show _ ≤ 16; omega) (by show _ ≤ 128; omega)
def b0_134 (D : Hp) (i3 : Int32) (i4 : Int32) (ob5 : Nat) (ob6 : Nat) (i7 : Int32) (i12 : Int32) (i13 : Int32) : Option (Int32 × Hp) :=
  (f3 D ob6 i12 i13).bind fun q26 => own_let q26.1 fun x27 => own_let q26.2 fun D26 =>
  (ck D26 ob5 1).bind fun u29 => (f4 D26 ob5 i12 i13).bind fun q28 => own_let q28.1 fun x30 => own_let q28.2 fun D28 =>
  if x27 = x30 then (b0_166 D28 i3 i4 ob5 ob6 i7) else (b0_166 D28 i3 i4 ob5 ob6 (0 : Int32))
set_option maxRecDepth 65536 in
set_option maxHeartbeats 40000000 in
theorem bt0_134 {p : Program} {l : Launch} {e : Env} {s : State} {m : MethodId} {args : Array Value} {below : List Frame} {meth : Method} {c : Code} {Z : State} {a0 : Array Value} {n0 : Nat} {D' : Hp} {r : Int32} {T0 : State} {locs : List Loc} {cells slots : Nat} {h0 : Heap} {D : Hp} {i0 : Int32} {i1 : Int32} {i2 : Int32} {i3 : Int32} {i4 : Int32} {ob5 : Nat} {ob6 : Nat} {i7 : Int32} {i8 : Int32} {i9 : Int32} {i10 : Int32} {i11 : Int32} {i12 : Int32} {i13 : Int32} {i14 : Int32} {i15 : Int32} {i16 : Int32} {i17 : Int32} (hw : ∀ d ∈ tables_1, d.before a0 Z = true) (hC : Cx p s m meth c Z code maxLocals ret "com/example/sondage/sondage/graph/DisjointSetsFindPinLaw" "law") (X0 : Stand p l e room_1 s m args below meth c T0 locs cells slots) (e0 : T0.heap = h0) (O0 : Ow Kt1 Z h0 n0 D) (N0 : Fr n0 locs) (hcc : cells ≤ 4) (hss : slots ≤ 22) (hf : b0_134 D i3 i4 ob5 ob6 i7 i12 i13 = some (r, D')) : Gl p e below s 16 128 (Qw Kt1 Z n0 (some (.int r)) D') (T0.setTop (mkF m 134 #[.val (.int i0), .val (.int i1), .val (.int i2), .val (.int i3), .val (.int i4), .val (.ref (n0 + ob5)), .val (.ref (n0 + ob6)), .val (.int i7), .val (.int i8), .val (.int i9), .val (.int i10), .val (.int i11), .val (.int i12), .val (.int i13), .val (.int i14), .val (.int i15), .val (.int i16), .val (.int i17), .unset, .unset, .unset, .unset, .unset, .unset] [])) := by
  obtain ⟨hx, hZ, hby, hml, hown, hnm, hret, hlk⟩ := id hC
  have hml : c.maxLocals = 24 := hml
  rw [b0_134] at hf
  obtain ⟨⟨x27, D26⟩, hq26, hf⟩ := own_bind hf
  obtain ⟨_, rfl, hf⟩ := own_letE hf
  obtain ⟨_, rfl, hf⟩ := own_letE hf
  obtain ⟨T26, h26, L26, X26, e26, O26, N26, st26⟩ := callSW X0 hx hZ (y := (⟨"com/example/sondage/sondage/graph/DisjointSetsFindPinLaw", "merge", "([III)Z"⟩ : MethodName)) hown (hw _ (List.mem_of_getElem? (i := 14) rfl)) (hw _ (List.mem_of_getElem? (i := 15) rfl)) (hw _ (List.mem_of_getElem? (i := 16) rfl)) (hw _ (List.mem_of_getElem? (i := 17) rfl)) (by decide) e0 O0 N0 (as' := [(.ref (n0 + ob6)), (.int i12), (.int i13)]) (ct3 hw hq26) (W := 0) (kc := 0) (ks := 0) rfl rfl (by decide) (by decide) (g := (mkF m 140 #[.val (.int i0), .val (.int i1), .val (.int i2), .val (.int i3), .val (.int i4), .val (.ref (n0 + ob5)), .val (.ref (n0 + ob6)), .val (.int i7), .val (.int i8), .val (.int i9), .val (.int i10), .val (.int i11), .val (.int i12), .val (.int i13), .val (.int i14), .val (.int i15), .val (.int i16), .val (.int i17), .unset, .unset, .unset, .unset, .unset, .unset] [(.int i13), (.int i12), (.ref (n0 + ob6))])) rfl (by rw [hml]; rfl) (rest := []) (lenOf pd_2 rfl) rfl (by show 2 * 0 + _ ≤ _; exact Nat.le_of_eq rfl) (hb hby at_140) (by show _ + 0 ≤ 16; omega) (by show _ + 0 ≤ 128; omega)
  obtain ⟨u29, hk28, hf⟩ := own_bind hf
  obtain ⟨⟨x30, D28⟩, hq28, hf⟩ := own_bind hf
  obtain ⟨_, rfl, hf⟩ := own_letE hf
  obtain ⟨_, rfl, hf⟩ := own_letE hf
  obtain ⟨T28, h28, L28, X28, e28, O28, N28, st28⟩ := callVW X26 hx hZ (y := (⟨"com/example/sondage/sondage/graph/DisjointSets", "union", "(II)Z"⟩ : MethodName)) hown (hw _ (List.mem_of_getElem? (i := 18) rfl)) (hw _ (List.mem_of_getElem? (i := 19) rfl)) (hw _ (List.mem_of_getElem? (i := 21) rfl)) (hw _ (List.mem_of_getElem? (i := 20) rfl)) (hw _ (List.mem_of_getElem? (i := 2) rfl)) (hw _ (List.mem_of_getElem? (i := 22) rfl)) (by decide) e26 O26 N26 hk28 rfl (as' := [(.int i12), (.int i13)]) (ct4 hw hq28) (W := 0) (kc := 0) (ks := 0) rfl rfl (by decide) (by decide) (g := (mkF m 151 #[.val (.int i0), .val (.int i1), .val (.int i2), .val (.int i3), .val (.int i4), .val (.ref (n0 + ob5)), .val (.ref (n0 + ob6)), .val (.int i7), .val (.int i8), .val (.int i9), .val (.int i10), .val (.int i11), .val (.int i12), .val (.int i13), .val (.int i14), .val (.int i15), .val (.int i16), .val (.int i17), .val (.int x27), .unset, .unset, .unset, .unset, .unset] [(.int i13), (.int i12), (.ref (n0 + ob5))])) rfl (by rw [hml]; rfl) (rest := []) (lenOf pd_3 rfl) rfl (by show 2 * 0 + _ ≤ _; exact Nat.le_of_eq rfl) (hb hby at_151) (by show _ + 0 ≤ 16; omega) (by show _ + 0 ≤ 128; omega)
  refine Gl.on (B := T28.setTop (mkF m 160 #[.val (.int i0), .val (.int i1), .val (.int i2), .val (.int i3), .val (.int i4), .val (.ref (n0 + ob5)), .val (.ref (n0 + ob6)), .val (.int i7), .val (.int i8), .val (.int i9), .val (.int i10), .val (.int i11), .val (.int i12), .val (.int i13), .val (.int i14), .val (.int i15), .val (.int i16), .val (.int i17), .val (.int x27), .val (.int x30), .unset, .unset, .unset, .unset] [(.int x30), (.int x27)])) (fun t k => ?_) ?_
  · show Steps p.tables e below (T0.setTop (mkF m 134 #[.val (.int i0), .val (.int i1), .val (.int i2), .val (.int i3), .val (.int i4), .val (.ref (n0 + ob5)), .val (.ref (n0 + ob6)), .val (.int i7), .val (.int i8), .val (.int i9), .val (.int i10), .val (.int i11), .val (.int i12), .val (.int i13), .val (.int i14), .val (.int i15), .val (.int i16), .val (.int i17), .unset, .unset, .unset, .unset, .unset, .unset] [])) _
    refine XS.aload X0.here hx rfl (hb hby at_134) rfl rfl ?_
    show Steps p.tables e below (T0.setTop (mkF m 136 #[.val (.int i0), .val (.int i1), .val (.int i2), .val (.int i3), .val (.int i4), .val (.ref (n0 + ob5)), .val (.ref (n0 + ob6)), .val (.int i7), .val (.int i8), .val (.int i9), .val (.int i10), .val (.int i11), .val (.int i12), .val (.int i13), .val (.int i14), .val (.int i15), .val (.int i16), .val (.int i17), .unset, .unset, .unset, .unset, .unset, .unset] [(.ref (n0 + ob6))])) _
    refine XS.iload X0.here hx rfl (hb hby at_136) rfl ?_
    show Steps p.tables e below (T0.setTop (mkF m 138 #[.val (.int i0), .val (.int i1), .val (.int i2), .val (.int i3), .val (.int i4), .val (.ref (n0 + ob5)), .val (.ref (n0 + ob6)), .val (.int i7), .val (.int i8), .val (.int i9), .val (.int i10), .val (.int i11), .val (.int i12), .val (.int i13), .val (.int i14), .val (.int i15), .val (.int i16), .val (.int i17), .unset, .unset, .unset, .unset, .unset, .unset] [(.int i12), (.ref (n0 + ob6))])) _
    refine XS.iload X0.here hx rfl (hb hby at_138) rfl ?_
    show Steps p.tables e below (T0.setTop (mkF m 140 #[.val (.int i0), .val (.int i1), .val (.int i2), .val (.int i3), .val (.int i4), .val (.ref (n0 + ob5)), .val (.ref (n0 + ob6)), .val (.int i7), .val (.int i8), .val (.int i9), .val (.int i10), .val (.int i11), .val (.int i12), .val (.int i13), .val (.int i14), .val (.int i15), .val (.int i16), .val (.int i17), .unset, .unset, .unset, .unset, .unset, .unset] [(.int i13), (.int i12), (.ref (n0 + ob6))])) _
    refine st26 _ ?_
    show Steps p.tables e below (T26.setTop (mkF m 143 #[.val (.int i0), .val (.int i1), .val (.int i2), .val (.int i3), .val (.int i4), .val (.ref (n0 + ob5)), .val (.ref (n0 + ob6)), .val (.int i7), .val (.int i8), .val (.int i9), .val (.int i10), .val (.int i11), .val (.int i12), .val (.int i13), .val (.int i14), .val (.int i15), .val (.int i16), .val (.int i17), .unset, .unset, .unset, .unset, .unset, .unset] [(.int x27)])) _
    refine XS.istore X26.here hx rfl (hb hby at_143) rfl (l' := #[.val (.int i0), .val (.int i1), .val (.int i2), .val (.int i3), .val (.int i4), .val (.ref (n0 + ob5)), .val (.ref (n0 + ob6)), .val (.int i7), .val (.int i8), .val (.int i9), .val (.int i10), .val (.int i11), .val (.int i12), .val (.int i13), .val (.int i14), .val (.int i15), .val (.int i16), .val (.int i17), .val (.int x27), .unset, .unset, .unset, .unset, .unset]) rfl ?_
    show Steps p.tables e below (T26.setTop (mkF m 145 #[.val (.int i0), .val (.int i1), .val (.int i2), .val (.int i3), .val (.int i4), .val (.ref (n0 + ob5)), .val (.ref (n0 + ob6)), .val (.int i7), .val (.int i8), .val (.int i9), .val (.int i10), .val (.int i11), .val (.int i12), .val (.int i13), .val (.int i14), .val (.int i15), .val (.int i16), .val (.int i17), .val (.int x27), .unset, .unset, .unset, .unset, .unset] [])) _
    refine XS.aload X26.here hx rfl (hb hby at_145) rfl rfl ?_
    show Steps p.tables e below (T26.setTop (mkF m 147 #[.val (.int i0), .val (.int i1), .val (.int i2), .val (.int i3), .val (.int i4), .val (.ref (n0 + ob5)), .val (.ref (n0 + ob6)), .val (.int i7), .val (.int i8), .val (.int i9), .val (.int i10), .val (.int i11), .val (.int i12), .val (.int i13), .val (.int i14), .val (.int i15), .val (.int i16), .val (.int i17), .val (.int x27), .unset, .unset, .unset, .unset, .unset] [(.ref (n0 + ob5))])) _
    refine XS.iload X26.here hx rfl (hb hby at_147) rfl ?_
    show Steps p.tables e below (T26.setTop (mkF m 149 #[.val (.int i0), .val (.int i1), .val (.int i2), .val (.int i3), .val (.int i4), .val (.ref (n0 + ob5)), .val (.ref (n0 + ob6)), .val (.int i7), .val (.int i8), .val (.int i9), .val (.int i10), .val (.int i11), .val (.int i12), .val (.int i13), .val (.int i14), .val (.int i15), .val (.int i16), .val (.int i17), .val (.int x27), .unset, .unset, .unset, .unset, .unset] [(.int i12), (.ref (n0 + ob5))])) _
    refine XS.iload X26.here hx rfl (hb hby at_149) rfl ?_
    show Steps p.tables e below (T26.setTop (mkF m 151 #[.val (.int i0), .val (.int i1), .val (.int i2), .val (.int i3), .val (.int i4), .val (.ref (n0 + ob5)), .val (.ref (n0 + ob6)), .val (.int i7), .val (.int i8), .val (.int i9), .val (.int i10), .val (.int i11), .val (.int i12), .val (.int i13), .val (.int i14), .val (.int i15), .val (.int i16), .val (.int i17), .val (.int x27), .unset, .unset, .unset, .unset, .unset] [(.int i13), (.int i12), (.ref (n0 + ob5))])) _
    refine st28 _ ?_
    show Steps p.tables e below (T28.setTop (mkF m 154 #[.val (.int i0), .val (.int i1), .val (.int i2), .val (.int i3), .val (.int i4), .val (.ref (n0 + ob5)), .val (.ref (n0 + ob6)), .val (.int i7), .val (.int i8), .val (.int i9), .val (.int i10), .val (.int i11), .val (.int i12), .val (.int i13), .val (.int i14), .val (.int i15), .val (.int i16), .val (.int i17), .val (.int x27), .unset, .unset, .unset, .unset, .unset] [(.int x30)])) _
    refine XS.istore X28.here hx rfl (hb hby at_154) rfl (l' := #[.val (.int i0), .val (.int i1), .val (.int i2), .val (.int i3), .val (.int i4), .val (.ref (n0 + ob5)), .val (.ref (n0 + ob6)), .val (.int i7), .val (.int i8), .val (.int i9), .val (.int i10), .val (.int i11), .val (.int i12), .val (.int i13), .val (.int i14), .val (.int i15), .val (.int i16), .val (.int i17), .val (.int x27), .val (.int x30), .unset, .unset, .unset, .unset]) rfl ?_
    show Steps p.tables e below (T28.setTop (mkF m 156 #[.val (.int i0), .val (.int i1), .val (.int i2), .val (.int i3), .val (.int i4), .val (.ref (n0 + ob5)), .val (.ref (n0 + ob6)), .val (.int i7), .val (.int i8), .val (.int i9), .val (.int i10), .val (.int i11), .val (.int i12), .val (.int i13), .val (.int i14), .val (.int i15), .val (.int i16), .val (.int i17), .val (.int x27), .val (.int x30), .unset, .unset, .unset, .unset] [])) _
    refine XS.iload X28.here hx rfl (hb hby at_156) rfl ?_
    show Steps p.tables e below (T28.setTop (mkF m 158 #[.val (.int i0), .val (.int i1), .val (.int i2), .val (.int i3), .val (.int i4), .val (.ref (n0 + ob5)), .val (.ref (n0 + ob6)), .val (.int i7), .val (.int i8), .val (.int i9), .val (.int i10), .val (.int i11), .val (.int i12), .val (.int i13), .val (.int i14), .val (.int i15), .val (.int i16), .val (.int i17), .val (.int x27), .val (.int x30), .unset, .unset, .unset, .unset] [(.int x27)])) _
    refine XS.iload X28.here hx rfl (hb hby at_158) rfl ?_
    exact k
  by_cases hc31 : x27 = x30
  · rw [if_pos hc31] at hf
    refine Gl.on (B := T28.setTop (mkF m 166 #[.val (.int i0), .val (.int i1), .val (.int i2), .val (.int i3), .val (.int i4), .val (.ref (n0 + ob5)), .val (.ref (n0 + ob6)), .val (.int i7), .val (.int i8), .val (.int i9), .val (.int i10), .val (.int i11), .val (.int i12), .val (.int i13), .val (.int i14), .val (.int i15), .val (.int i16), .val (.int i17), .val (.int x27), .val (.int x30), .unset, .unset, .unset, .unset] [])) (fun t k => ?_) ?_
    · show Steps p.tables e below (T28.setTop (mkF m 160 #[.val (.int i0), .val (.int i1), .val (.int i2), .val (.int i3), .val (.int i4), .val (.ref (n0 + ob5)), .val (.ref (n0 + ob6)), .val (.int i7), .val (.int i8), .val (.int i9), .val (.int i10), .val (.int i11), .val (.int i12), .val (.int i13), .val (.int i14), .val (.int i15), .val (.int i16), .val (.int i17), .val (.int x27), .val (.int x30), .unset, .unset, .unset, .unset] [(.int x30), (.int x27)])) _
      refine XS.icmpYes X28.here hx rfl (pc0 := 160) (pc' := 166) rfl (hb hby at_160) rfl (teq hc31).1 (by decide) (by decide) ?_
      exact k
    exact bt0_166 hw hC X28 e28 O28 N28 (by omega) (by omega) hf
  · rw [if_neg hc31] at hf
    refine Gl.on (B := T28.setTop (mkF m 166 #[.val (.int i0), .val (.int i1), .val (.int i2), .val (.int i3), .val (.int i4), .val (.ref (n0 + ob5)), .val (.ref (n0 + ob6)), .val (.int (0 : Int32)), .val (.int i8), .val (.int i9), .val (.int i10), .val (.int i11), .val (.int i12), .val (.int i13), .val (.int i14), .val (.int i15), .val (.int i16), .val (.int i17), .val (.int x27), .val (.int x30), .unset, .unset, .unset, .unset] [])) (fun t k => ?_) ?_
    · show Steps p.tables e below (T28.setTop (mkF m 160 #[.val (.int i0), .val (.int i1), .val (.int i2), .val (.int i3), .val (.int i4), .val (.ref (n0 + ob5)), .val (.ref (n0 + ob6)), .val (.int i7), .val (.int i8), .val (.int i9), .val (.int i10), .val (.int i11), .val (.int i12), .val (.int i13), .val (.int i14), .val (.int i15), .val (.int i16), .val (.int i17), .val (.int x27), .val (.int x30), .unset, .unset, .unset, .unset] [(.int x30), (.int x27)])) _
      refine XS.icmpNo X28.here hx rfl (hb hby at_160) rfl (feq hc31).1 ?_
      show Steps p.tables e below (T28.setTop (mkF m 163 #[.val (.int i0), .val (.int i1), .val (.int i2), .val (.int i3), .val (.int i4), .val (.ref (n0 + ob5)), .val (.ref (n0 + ob6)), .val (.int i7), .val (.int i8), .val (.int i9), .val (.int i10), .val (.int i11), .val (.int i12), .val (.int i13), .val (.int i14), .val (.int i15), .val (.int i16), .val (.int i17), .val (.int x27), .val (.int x30), .unset, .unset, .unset, .unset] [])) _
      refine XS.iconst X28.here hx rfl (hb hby at_163) ?_
      show Steps p.tables e below (T28.setTop (mkF m 164 #[.val (.int i0), .val (.int i1), .val (.int i2), .val (.int i3), .val (.int i4), .val (.ref (n0 + ob5)), .val (.ref (n0 + ob6)), .val (.int i7), .val (.int i8), .val (.int i9), .val (.int i10), .val (.int i11), .val (.int i12), .val (.int i13), .val (.int i14), .val (.int i15), .val (.int i16), .val (.int i17), .val (.int x27), .val (.int x30), .unset, .unset, .unset, .unset] [(.int (0 : Int32))])) _
      refine XS.istore X28.here hx rfl (hb hby at_164) rfl (l' := #[.val (.int i0), .val (.int i1), .val (.int i2), .val (.int i3), .val (.int i4), .val (.ref (n0 + ob5)), .val (.ref (n0 + ob6)), .val (.int (0 : Int32)), .val (.int i8), .val (.int i9), .val (.int i10), .val (.int i11), .val (.int i12), .val (.int i13), .val (.int i14), .val (.int i15), .val (.int i16), .val (.int i17), .val (.int x27), .val (.int x30), .unset, .unset, .unset, .unset]) rfl ?_
      exact k
    exact bt0_166 hw hC X28 e28 O28 N28 (by omega) (by omega) hf
def b0_102 (D : Hp) (i3 : Int32) (i4 : Int32) (ob5 : Nat) (ob6 : Nat) (i7 : Int32) (i10 : Int32) (i11 : Int32) (i12 : Int32) (i13 : Int32) : Option (Int32 × Hp) :=
  (f3 D ob6 i10 i11).bind fun q20 => own_let q20.1 fun x21 => own_let q20.2 fun D20 =>
  (ck D20 ob5 1).bind fun u23 => (f4 D20 ob5 i10 i11).bind fun q22 => own_let q22.1 fun x24 => own_let q22.2 fun D22 =>
  if x21 = x24 then (b0_134 D22 i3 i4 ob5 ob6 i7 i12 i13) else (b0_134 D22 i3 i4 ob5 ob6 (0 : Int32) i12 i13)
set_option maxRecDepth 65536 in
set_option maxHeartbeats 40000000 in
theorem bt0_102 {p : Program} {l : Launch} {e : Env} {s : State} {m : MethodId} {args : Array Value} {below : List Frame} {meth : Method} {c : Code} {Z : State} {a0 : Array Value} {n0 : Nat} {D' : Hp} {r : Int32} {T0 : State} {locs : List Loc} {cells slots : Nat} {h0 : Heap} {D : Hp} {i0 : Int32} {i1 : Int32} {i2 : Int32} {i3 : Int32} {i4 : Int32} {ob5 : Nat} {ob6 : Nat} {i7 : Int32} {i8 : Int32} {i9 : Int32} {i10 : Int32} {i11 : Int32} {i12 : Int32} {i13 : Int32} {i14 : Int32} {i15 : Int32} (hw : ∀ d ∈ tables_1, d.before a0 Z = true) (hC : Cx p s m meth c Z code maxLocals ret "com/example/sondage/sondage/graph/DisjointSetsFindPinLaw" "law") (X0 : Stand p l e room_1 s m args below meth c T0 locs cells slots) (e0 : T0.heap = h0) (O0 : Ow Kt1 Z h0 n0 D) (N0 : Fr n0 locs) (hcc : cells ≤ 4) (hss : slots ≤ 22) (hf : b0_102 D i3 i4 ob5 ob6 i7 i10 i11 i12 i13 = some (r, D')) : Gl p e below s 16 128 (Qw Kt1 Z n0 (some (.int r)) D') (T0.setTop (mkF m 102 #[.val (.int i0), .val (.int i1), .val (.int i2), .val (.int i3), .val (.int i4), .val (.ref (n0 + ob5)), .val (.ref (n0 + ob6)), .val (.int i7), .val (.int i8), .val (.int i9), .val (.int i10), .val (.int i11), .val (.int i12), .val (.int i13), .val (.int i14), .val (.int i15), .unset, .unset, .unset, .unset, .unset, .unset, .unset, .unset] [])) := by
  obtain ⟨hx, hZ, hby, hml, hown, hnm, hret, hlk⟩ := id hC
  have hml : c.maxLocals = 24 := hml
  rw [b0_102] at hf
  obtain ⟨⟨x21, D20⟩, hq20, hf⟩ := own_bind hf
  obtain ⟨_, rfl, hf⟩ := own_letE hf
  obtain ⟨_, rfl, hf⟩ := own_letE hf
  obtain ⟨T20, h20, L20, X20, e20, O20, N20, st20⟩ := callSW X0 hx hZ (y := (⟨"com/example/sondage/sondage/graph/DisjointSetsFindPinLaw", "merge", "([III)Z"⟩ : MethodName)) hown (hw _ (List.mem_of_getElem? (i := 14) rfl)) (hw _ (List.mem_of_getElem? (i := 15) rfl)) (hw _ (List.mem_of_getElem? (i := 16) rfl)) (hw _ (List.mem_of_getElem? (i := 17) rfl)) (by decide) e0 O0 N0 (as' := [(.ref (n0 + ob6)), (.int i10), (.int i11)]) (ct3 hw hq20) (W := 0) (kc := 0) (ks := 0) rfl rfl (by decide) (by decide) (g := (mkF m 108 #[.val (.int i0), .val (.int i1), .val (.int i2), .val (.int i3), .val (.int i4), .val (.ref (n0 + ob5)), .val (.ref (n0 + ob6)), .val (.int i7), .val (.int i8), .val (.int i9), .val (.int i10), .val (.int i11), .val (.int i12), .val (.int i13), .val (.int i14), .val (.int i15), .unset, .unset, .unset, .unset, .unset, .unset, .unset, .unset] [(.int i11), (.int i10), (.ref (n0 + ob6))])) rfl (by rw [hml]; rfl) (rest := []) (lenOf pd_2 rfl) rfl (by show 2 * 0 + _ ≤ _; exact Nat.le_of_eq rfl) (hb hby at_108) (by show _ + 0 ≤ 16; omega) (by show _ + 0 ≤ 128; omega)
  obtain ⟨u23, hk22, hf⟩ := own_bind hf
  obtain ⟨⟨x24, D22⟩, hq22, hf⟩ := own_bind hf
  obtain ⟨_, rfl, hf⟩ := own_letE hf
  obtain ⟨_, rfl, hf⟩ := own_letE hf
  obtain ⟨T22, h22, L22, X22, e22, O22, N22, st22⟩ := callVW X20 hx hZ (y := (⟨"com/example/sondage/sondage/graph/DisjointSets", "union", "(II)Z"⟩ : MethodName)) hown (hw _ (List.mem_of_getElem? (i := 18) rfl)) (hw _ (List.mem_of_getElem? (i := 19) rfl)) (hw _ (List.mem_of_getElem? (i := 21) rfl)) (hw _ (List.mem_of_getElem? (i := 20) rfl)) (hw _ (List.mem_of_getElem? (i := 2) rfl)) (hw _ (List.mem_of_getElem? (i := 22) rfl)) (by decide) e20 O20 N20 hk22 rfl (as' := [(.int i10), (.int i11)]) (ct4 hw hq22) (W := 0) (kc := 0) (ks := 0) rfl rfl (by decide) (by decide) (g := (mkF m 119 #[.val (.int i0), .val (.int i1), .val (.int i2), .val (.int i3), .val (.int i4), .val (.ref (n0 + ob5)), .val (.ref (n0 + ob6)), .val (.int i7), .val (.int i8), .val (.int i9), .val (.int i10), .val (.int i11), .val (.int i12), .val (.int i13), .val (.int i14), .val (.int i15), .val (.int x21), .unset, .unset, .unset, .unset, .unset, .unset, .unset] [(.int i11), (.int i10), (.ref (n0 + ob5))])) rfl (by rw [hml]; rfl) (rest := []) (lenOf pd_3 rfl) rfl (by show 2 * 0 + _ ≤ _; exact Nat.le_of_eq rfl) (hb hby at_119) (by show _ + 0 ≤ 16; omega) (by show _ + 0 ≤ 128; omega)
  refine Gl.on (B := T22.setTop (mkF m 128 #[.val (.int i0), .val (.int i1), .val (.int i2), .val (.int i3), .val (.int i4), .val (.ref (n0 + ob5)), .val (.ref (n0 + ob6)), .val (.int i7), .val (.int i8), .val (.int i9), .val (.int i10), .val (.int i11), .val (.int i12), .val (.int i13), .val (.int i14), .val (.int i15), .val (.int x21), .val (.int x24), .unset, .unset, .unset, .unset, .unset, .unset] [(.int x24), (.int x21)])) (fun t k => ?_) ?_
  · show Steps p.tables e below (T0.setTop (mkF m 102 #[.val (.int i0), .val (.int i1), .val (.int i2), .val (.int i3), .val (.int i4), .val (.ref (n0 + ob5)), .val (.ref (n0 + ob6)), .val (.int i7), .val (.int i8), .val (.int i9), .val (.int i10), .val (.int i11), .val (.int i12), .val (.int i13), .val (.int i14), .val (.int i15), .unset, .unset, .unset, .unset, .unset, .unset, .unset, .unset] [])) _
    refine XS.aload X0.here hx rfl (hb hby at_102) rfl rfl ?_
    show Steps p.tables e below (T0.setTop (mkF m 104 #[.val (.int i0), .val (.int i1), .val (.int i2), .val (.int i3), .val (.int i4), .val (.ref (n0 + ob5)), .val (.ref (n0 + ob6)), .val (.int i7), .val (.int i8), .val (.int i9), .val (.int i10), .val (.int i11), .val (.int i12), .val (.int i13), .val (.int i14), .val (.int i15), .unset, .unset, .unset, .unset, .unset, .unset, .unset, .unset] [(.ref (n0 + ob6))])) _
    refine XS.iload X0.here hx rfl (hb hby at_104) rfl ?_
    show Steps p.tables e below (T0.setTop (mkF m 106 #[.val (.int i0), .val (.int i1), .val (.int i2), .val (.int i3), .val (.int i4), .val (.ref (n0 + ob5)), .val (.ref (n0 + ob6)), .val (.int i7), .val (.int i8), .val (.int i9), .val (.int i10), .val (.int i11), .val (.int i12), .val (.int i13), .val (.int i14), .val (.int i15), .unset, .unset, .unset, .unset, .unset, .unset, .unset, .unset] [(.int i10), (.ref (n0 + ob6))])) _
    refine XS.iload X0.here hx rfl (hb hby at_106) rfl ?_
    show Steps p.tables e below (T0.setTop (mkF m 108 #[.val (.int i0), .val (.int i1), .val (.int i2), .val (.int i3), .val (.int i4), .val (.ref (n0 + ob5)), .val (.ref (n0 + ob6)), .val (.int i7), .val (.int i8), .val (.int i9), .val (.int i10), .val (.int i11), .val (.int i12), .val (.int i13), .val (.int i14), .val (.int i15), .unset, .unset, .unset, .unset, .unset, .unset, .unset, .unset] [(.int i11), (.int i10), (.ref (n0 + ob6))])) _
    refine st20 _ ?_
    show Steps p.tables e below (T20.setTop (mkF m 111 #[.val (.int i0), .val (.int i1), .val (.int i2), .val (.int i3), .val (.int i4), .val (.ref (n0 + ob5)), .val (.ref (n0 + ob6)), .val (.int i7), .val (.int i8), .val (.int i9), .val (.int i10), .val (.int i11), .val (.int i12), .val (.int i13), .val (.int i14), .val (.int i15), .unset, .unset, .unset, .unset, .unset, .unset, .unset, .unset] [(.int x21)])) _
    refine XS.istore X20.here hx rfl (hb hby at_111) rfl (l' := #[.val (.int i0), .val (.int i1), .val (.int i2), .val (.int i3), .val (.int i4), .val (.ref (n0 + ob5)), .val (.ref (n0 + ob6)), .val (.int i7), .val (.int i8), .val (.int i9), .val (.int i10), .val (.int i11), .val (.int i12), .val (.int i13), .val (.int i14), .val (.int i15), .val (.int x21), .unset, .unset, .unset, .unset, .unset, .unset, .unset]) rfl ?_
    show Steps p.tables e below (T20.setTop (mkF m 113 #[.val (.int i0), .val (.int i1), .val (.int i2), .val (.int i3), .val (.int i4), .val (.ref (n0 + ob5)), .val (.ref (n0 + ob6)), .val (.int i7), .val (.int i8), .val (.int i9), .val (.int i10), .val (.int i11), .val (.int i12), .val (.int i13), .val (.int i14), .val (.int i15), .val (.int x21), .unset, .unset, .unset, .unset, .unset, .unset, .unset] [])) _
    refine XS.aload X20.here hx rfl (hb hby at_113) rfl rfl ?_
    show Steps p.tables e below (T20.setTop (mkF m 115 #[.val (.int i0), .val (.int i1), .val (.int i2), .val (.int i3), .val (.int i4), .val (.ref (n0 + ob5)), .val (.ref (n0 + ob6)), .val (.int i7), .val (.int i8), .val (.int i9), .val (.int i10), .val (.int i11), .val (.int i12), .val (.int i13), .val (.int i14), .val (.int i15), .val (.int x21), .unset, .unset, .unset, .unset, .unset, .unset, .unset] [(.ref (n0 + ob5))])) _
    refine XS.iload X20.here hx rfl (hb hby at_115) rfl ?_
    show Steps p.tables e below (T20.setTop (mkF m 117 #[.val (.int i0), .val (.int i1), .val (.int i2), .val (.int i3), .val (.int i4), .val (.ref (n0 + ob5)), .val (.ref (n0 + ob6)), .val (.int i7), .val (.int i8), .val (.int i9), .val (.int i10), .val (.int i11), .val (.int i12), .val (.int i13), .val (.int i14), .val (.int i15), .val (.int x21), .unset, .unset, .unset, .unset, .unset, .unset, .unset] [(.int i10), (.ref (n0 + ob5))])) _
    refine XS.iload X20.here hx rfl (hb hby at_117) rfl ?_
    show Steps p.tables e below (T20.setTop (mkF m 119 #[.val (.int i0), .val (.int i1), .val (.int i2), .val (.int i3), .val (.int i4), .val (.ref (n0 + ob5)), .val (.ref (n0 + ob6)), .val (.int i7), .val (.int i8), .val (.int i9), .val (.int i10), .val (.int i11), .val (.int i12), .val (.int i13), .val (.int i14), .val (.int i15), .val (.int x21), .unset, .unset, .unset, .unset, .unset, .unset, .unset] [(.int i11), (.int i10), (.ref (n0 + ob5))])) _
    refine st22 _ ?_
    show Steps p.tables e below (T22.setTop (mkF m 122 #[.val (.int i0), .val (.int i1), .val (.int i2), .val (.int i3), .val (.int i4), .val (.ref (n0 + ob5)), .val (.ref (n0 + ob6)), .val (.int i7), .val (.int i8), .val (.int i9), .val (.int i10), .val (.int i11), .val (.int i12), .val (.int i13), .val (.int i14), .val (.int i15), .val (.int x21), .unset, .unset, .unset, .unset, .unset, .unset, .unset] [(.int x24)])) _
    refine XS.istore X22.here hx rfl (hb hby at_122) rfl (l' := #[.val (.int i0), .val (.int i1), .val (.int i2), .val (.int i3), .val (.int i4), .val (.ref (n0 + ob5)), .val (.ref (n0 + ob6)), .val (.int i7), .val (.int i8), .val (.int i9), .val (.int i10), .val (.int i11), .val (.int i12), .val (.int i13), .val (.int i14), .val (.int i15), .val (.int x21), .val (.int x24), .unset, .unset, .unset, .unset, .unset, .unset]) rfl ?_
    show Steps p.tables e below (T22.setTop (mkF m 124 #[.val (.int i0), .val (.int i1), .val (.int i2), .val (.int i3), .val (.int i4), .val (.ref (n0 + ob5)), .val (.ref (n0 + ob6)), .val (.int i7), .val (.int i8), .val (.int i9), .val (.int i10), .val (.int i11), .val (.int i12), .val (.int i13), .val (.int i14), .val (.int i15), .val (.int x21), .val (.int x24), .unset, .unset, .unset, .unset, .unset, .unset] [])) _
    refine XS.iload X22.here hx rfl (hb hby at_124) rfl ?_
    show Steps p.tables e below (T22.setTop (mkF m 126 #[.val (.int i0), .val (.int i1), .val (.int i2), .val (.int i3), .val (.int i4), .val (.ref (n0 + ob5)), .val (.ref (n0 + ob6)), .val (.int i7), .val (.int i8), .val (.int i9), .val (.int i10), .val (.int i11), .val (.int i12), .val (.int i13), .val (.int i14), .val (.int i15), .val (.int x21), .val (.int x24), .unset, .unset, .unset, .unset, .unset, .unset] [(.int x21)])) _
    refine XS.iload X22.here hx rfl (hb hby at_126) rfl ?_
    exact k
  by_cases hc25 : x21 = x24
  · rw [if_pos hc25] at hf
    refine Gl.on (B := T22.setTop (mkF m 134 #[.val (.int i0), .val (.int i1), .val (.int i2), .val (.int i3), .val (.int i4), .val (.ref (n0 + ob5)), .val (.ref (n0 + ob6)), .val (.int i7), .val (.int i8), .val (.int i9), .val (.int i10), .val (.int i11), .val (.int i12), .val (.int i13), .val (.int i14), .val (.int i15), .val (.int x21), .val (.int x24), .unset, .unset, .unset, .unset, .unset, .unset] [])) (fun t k => ?_) ?_
    · show Steps p.tables e below (T22.setTop (mkF m 128 #[.val (.int i0), .val (.int i1), .val (.int i2), .val (.int i3), .val (.int i4), .val (.ref (n0 + ob5)), .val (.ref (n0 + ob6)), .val (.int i7), .val (.int i8), .val (.int i9), .val (.int i10), .val (.int i11), .val (.int i12), .val (.int i13), .val (.int i14), .val (.int i15), .val (.int x21), .val (.int x24), .unset, .unset, .unset, .unset, .unset, .unset] [(.int x24), (.int x21)])) _
      refine XS.icmpYes X22.here hx rfl (pc0 := 128) (pc' := 134) rfl (hb hby at_128) rfl (teq hc25).1 (by decide) (by decide) ?_
      exact k
    exact bt0_134 hw hC X22 e22 O22 N22 (by omega) (by omega) hf
  · rw [if_neg hc25] at hf
    refine Gl.on (B := T22.setTop (mkF m 134 #[.val (.int i0), .val (.int i1), .val (.int i2), .val (.int i3), .val (.int i4), .val (.ref (n0 + ob5)), .val (.ref (n0 + ob6)), .val (.int (0 : Int32)), .val (.int i8), .val (.int i9), .val (.int i10), .val (.int i11), .val (.int i12), .val (.int i13), .val (.int i14), .val (.int i15), .val (.int x21), .val (.int x24), .unset, .unset, .unset, .unset, .unset, .unset] [])) (fun t k => ?_) ?_
    · show Steps p.tables e below (T22.setTop (mkF m 128 #[.val (.int i0), .val (.int i1), .val (.int i2), .val (.int i3), .val (.int i4), .val (.ref (n0 + ob5)), .val (.ref (n0 + ob6)), .val (.int i7), .val (.int i8), .val (.int i9), .val (.int i10), .val (.int i11), .val (.int i12), .val (.int i13), .val (.int i14), .val (.int i15), .val (.int x21), .val (.int x24), .unset, .unset, .unset, .unset, .unset, .unset] [(.int x24), (.int x21)])) _
      refine XS.icmpNo X22.here hx rfl (hb hby at_128) rfl (feq hc25).1 ?_
      show Steps p.tables e below (T22.setTop (mkF m 131 #[.val (.int i0), .val (.int i1), .val (.int i2), .val (.int i3), .val (.int i4), .val (.ref (n0 + ob5)), .val (.ref (n0 + ob6)), .val (.int i7), .val (.int i8), .val (.int i9), .val (.int i10), .val (.int i11), .val (.int i12), .val (.int i13), .val (.int i14), .val (.int i15), .val (.int x21), .val (.int x24), .unset, .unset, .unset, .unset, .unset, .unset] [])) _
      refine XS.iconst X22.here hx rfl (hb hby at_131) ?_
      show Steps p.tables e below (T22.setTop (mkF m 132 #[.val (.int i0), .val (.int i1), .val (.int i2), .val (.int i3), .val (.int i4), .val (.ref (n0 + ob5)), .val (.ref (n0 + ob6)), .val (.int i7), .val (.int i8), .val (.int i9), .val (.int i10), .val (.int i11), .val (.int i12), .val (.int i13), .val (.int i14), .val (.int i15), .val (.int x21), .val (.int x24), .unset, .unset, .unset, .unset, .unset, .unset] [(.int (0 : Int32))])) _
      refine XS.istore X22.here hx rfl (hb hby at_132) rfl (l' := #[.val (.int i0), .val (.int i1), .val (.int i2), .val (.int i3), .val (.int i4), .val (.ref (n0 + ob5)), .val (.ref (n0 + ob6)), .val (.int (0 : Int32)), .val (.int i8), .val (.int i9), .val (.int i10), .val (.int i11), .val (.int i12), .val (.int i13), .val (.int i14), .val (.int i15), .val (.int x21), .val (.int x24), .unset, .unset, .unset, .unset, .unset, .unset]) rfl ?_
      exact k
    exact bt0_134 hw hC X22 e22 O22 N22 (by omega) (by omega) hf
def f0 (D : Hp) (i0 : Int32) (i1 : Int32) (i2 : Int32) (i3 : Int32) (i4 : Int32) : Option (Int32 × Hp) :=
  own_let (D.length) fun a1 => own_let (D ++ [(1, [.null, .null])]) fun D1 =>
  (f1 D1 a1 (4 : Int32)).bind fun D2 =>
  own_let (D2.length) fun a3 => (nA D2 0 (4 : Int32) 4 (.int (0 : Int32))).bind fun D3 =>
  (wV D3 a3 0 (0 : Int32) (.int (0 : Int32))).bind fun D4 =>
  (wV D4 a3 0 (1 : Int32) (.int (1 : Int32))).bind fun D5 =>
  (wV D5 a3 0 (2 : Int32) (.int (2 : Int32))).bind fun D6 =>
  (wV D6 a3 0 (3 : Int32) (.int (3 : Int32))).bind fun D7 =>
  own_let (i0 &&& (3 : Int32)) fun v8 =>
  own_let (((i0.toUInt32 >>> ((2 : Int32) &&& 31).toUInt32).toInt32) &&& (3 : Int32)) fun v9 =>
  own_let (i1 &&& (3 : Int32)) fun v10 =>
  own_let (((i1.toUInt32 >>> ((2 : Int32) &&& 31).toUInt32).toInt32) &&& (3 : Int32)) fun v11 =>
  own_let (i2 &&& (3 : Int32)) fun v12 =>
  own_let (((i2.toUInt32 >>> ((2 : Int32) &&& 31).toUInt32).toInt32) &&& (3 : Int32)) fun v13 =>
  (f3 D7 a3 v8 v9).bind fun q14 => own_let q14.1 fun x15 => own_let q14.2 fun D14 =>
  (ck D14 a1 1).bind fun u17 => (f4 D14 a1 v8 v9).bind fun q16 => own_let q16.1 fun x18 => own_let q16.2 fun D16 =>
  if x15 = x18 then (b0_102 D16 i3 i4 a1 a3 (1 : Int32) v10 v11 v12 v13) else (b0_102 D16 i3 i4 a1 a3 (0 : Int32) v10 v11 v12 v13)
theorem ef_0 (m : MethodId) (i0 : Int32) (i1 : Int32) (i2 : Int32) (i3 : Int32) (i4 : Int32) : entryFrame m #[(.int i0), (.int i1), (.int i2), (.int i3), (.int i4)] maxLocals = mkF m 0 #[.val (.int i0), .val (.int i1), .val (.int i2), .val (.int i3), .val (.int i4), .unset, .unset, .unset, .unset, .unset, .unset, .unset, .unset, .unset, .unset, .unset, .unset, .unset, .unset, .unset, .unset, .unset, .unset, .unset] [] := by first | (simp [entryFrame, mkF, argsToLocals, Value.category, maxLocals]; done) | rfl
set_option maxRecDepth 65536 in
set_option maxHeartbeats 40000000 in
theorem ct0 {l : Launch} {Z : State} {a0 : Array Value} (hw : ∀ d ∈ tables_1, d.before a0 Z = true) {n0 : Nat} {D D' : Hp} {i0 : Int32} {i1 : Int32} {i2 : Int32} {i3 : Int32} {i4 : Int32} {r : Int32} (hf : f0 D i0 i1 i2 i3 i4 = some (r, D')) :
    Ct Kt1 l Z x (.code x code maxLocals ret) room_1 n0 D #[(.int i0), (.int i1), (.int i2), (.int i3), (.int i4)] (some (.int r)) D' := by
  refine Ct.of (plainFor_of_name pn_0) ?_
  intro p e s m below meth c T0 h0 hC X0 e0 O0
  obtain ⟨hx, hZ, hby, hml, hown, hnm, hret, hlk⟩ := id hC
  have hml : c.maxLocals = 24 := hml
  have hown : s.vm.findClass "com/example/sondage/sondage/graph/DisjointSetsFindPinLaw" = some m.cls := hown
  have hnm : meth.name = "law" := hnm
  have N0 := Fr.nil n0
  refine Gl.on (fun t k => castTop (ef_0 m i0 i1 i2 i3 i4) k) ?_
  rw [f0] at hf
  obtain ⟨a1, ha1, hf⟩ := own_letE hf
  obtain ⟨D1, hD1, hf⟩ := own_letE hf
  obtain ⟨T1, h1, X1, e1, O1, st1⟩ := newW X0 hx hZ hown (hw _ (List.mem_of_getElem? (i := 0) rfl)) (hw _ (List.mem_of_getElem? (i := 1) rfl)) (hw _ (List.mem_of_getElem? (i := 2) rfl)) (lay1 hw) e0 O0 (t := 1) rfl (ds := [.null, .null]) (by decide) (g := (mkF m 0 #[.val (.int i0), .val (.int i1), .val (.int i2), .val (.int i3), .val (.int i4), .unset, .unset, .unset, .unset, .unset, .unset, .unset, .unset, .unset, .unset, .unset, .unset, .unset, .unset, .unset, .unset, .unset, .unset, .unset] [])) rfl (hb hby at_0) (by show _ + 1 ≤ 16; omega) (by show _ + 2 ≤ 128; omega)
  rw [ha1] at st1
  rw [hD1] at O1
  obtain ⟨D2, hq2, hf⟩ := own_bind hf
  obtain ⟨T2, h2, L2, X2, e2, O2, N2, st2⟩ := callIW X1 hx hZ (y := (⟨"com/example/sondage/sondage/graph/DisjointSets", "<init>", "(I)V"⟩ : MethodName)) rfl hown (hw _ (List.mem_of_getElem? (i := 3) rfl)) (hw _ (List.mem_of_getElem? (i := 4) rfl)) (hw _ (List.mem_of_getElem? (i := 2) rfl)) (hw _ (List.mem_of_getElem? (i := 5) rfl)) (by decide) e1 O1 N0 (as' := [(.int (4 : Int32))]) (ct1 hw hq2) (W := 1) (kc := 2) (ks := 16) rfl rfl (by decide) (by decide) (g := (mkF m 5 #[.val (.int i0), .val (.int i1), .val (.int i2), .val (.int i3), .val (.int i4), .unset, .unset, .unset, .unset, .unset, .unset, .unset, .unset, .unset, .unset, .unset, .unset, .unset, .unset, .unset, .unset, .unset, .unset, .unset] [(.int (4 : Int32)), (.ref (n0 + a1)), (.ref (n0 + a1))])) rfl (by rw [hml]; rfl) (rest := [(.ref (n0 + a1))]) (lenOf pd_1 rfl) rfl (by show 2 * 0 + _ ≤ _; exact Nat.le_of_eq rfl) (hb hby at_5) (by show _ + 2 ≤ 16; omega) (by show _ + 16 ≤ 128; omega)
  obtain ⟨a3, ha3, hf⟩ := own_letE hf
  obtain ⟨D3, hD3, hf⟩ := own_bind hf
  obtain ⟨T3, h3, X3, e3, O3, st3⟩ := newAW X2 hx hZ (aty := .int) (hw _ (List.mem_of_getElem? (i := 9) rfl)) e2 O2 rfl rfl hD3 (g := (mkF m 11 #[.val (.int i0), .val (.int i1), .val (.int i2), .val (.int i3), .val (.int i4), .val (.ref (n0 + a1)), .unset, .unset, .unset, .unset, .unset, .unset, .unset, .unset, .unset, .unset, .unset, .unset, .unset, .unset, .unset, .unset, .unset, .unset] [(.int (4 : Int32))])) rfl (hb hby at_11) rfl (by decide) (by show _ + 1 ≤ 16; omega) (by show _ + 4 ≤ 128; omega)
  rw [ha3] at st3
  obtain ⟨D4, hq4, hf⟩ := own_bind hf
  obtain ⟨T4, h4, L4, X4, e4, O4, N4, st4⟩ := stIW X3 hx hZ e3 O3 N2 hq4 rfl (g := (mkF m 16 #[.val (.int i0), .val (.int i1), .val (.int i2), .val (.int i3), .val (.int i4), .val (.ref (n0 + a1)), .unset, .unset, .unset, .unset, .unset, .unset, .unset, .unset, .unset, .unset, .unset, .unset, .unset, .unset, .unset, .unset, .unset, .unset] [(.int (0 : Int32)), (.int (0 : Int32)), (.ref (n0 + a3)), (.ref (n0 + a3))])) rfl rfl (hb hby at_16)
  obtain ⟨D5, hq5, hf⟩ := own_bind hf
  obtain ⟨T5, h5, L5, X5, e5, O5, N5, st5⟩ := stIW X4 hx hZ e4 O4 N4 hq5 rfl (g := (mkF m 20 #[.val (.int i0), .val (.int i1), .val (.int i2), .val (.int i3), .val (.int i4), .val (.ref (n0 + a1)), .unset, .unset, .unset, .unset, .unset, .unset, .unset, .unset, .unset, .unset, .unset, .unset, .unset, .unset, .unset, .unset, .unset, .unset] [(.int (1 : Int32)), (.int (1 : Int32)), (.ref (n0 + a3)), (.ref (n0 + a3))])) rfl rfl (hb hby at_20)
  obtain ⟨D6, hq6, hf⟩ := own_bind hf
  obtain ⟨T6, h6, L6, X6, e6, O6, N6, st6⟩ := stIW X5 hx hZ e5 O5 N5 hq6 rfl (g := (mkF m 24 #[.val (.int i0), .val (.int i1), .val (.int i2), .val (.int i3), .val (.int i4), .val (.ref (n0 + a1)), .unset, .unset, .unset, .unset, .unset, .unset, .unset, .unset, .unset, .unset, .unset, .unset, .unset, .unset, .unset, .unset, .unset, .unset] [(.int (2 : Int32)), (.int (2 : Int32)), (.ref (n0 + a3)), (.ref (n0 + a3))])) rfl rfl (hb hby at_24)
  obtain ⟨D7, hq7, hf⟩ := own_bind hf
  obtain ⟨T7, h7, L7, X7, e7, O7, N7, st7⟩ := stIW X6 hx hZ e6 O6 N6 hq7 rfl (g := (mkF m 28 #[.val (.int i0), .val (.int i1), .val (.int i2), .val (.int i3), .val (.int i4), .val (.ref (n0 + a1)), .unset, .unset, .unset, .unset, .unset, .unset, .unset, .unset, .unset, .unset, .unset, .unset, .unset, .unset, .unset, .unset, .unset, .unset] [(.int (3 : Int32)), (.int (3 : Int32)), (.ref (n0 + a3)), (.ref (n0 + a3))])) rfl rfl (hb hby at_28)
  obtain ⟨v8, hv8, hf⟩ := own_letE hf
  obtain ⟨v9, hv9, hf⟩ := own_letE hf
  obtain ⟨v10, hv10, hf⟩ := own_letE hf
  obtain ⟨v11, hv11, hf⟩ := own_letE hf
  obtain ⟨v12, hv12, hf⟩ := own_letE hf
  obtain ⟨v13, hv13, hf⟩ := own_letE hf
  obtain ⟨⟨x15, D14⟩, hq14, hf⟩ := own_bind hf
  obtain ⟨_, rfl, hf⟩ := own_letE hf
  obtain ⟨_, rfl, hf⟩ := own_letE hf
  obtain ⟨T14, h14, L14, X14, e14, O14, N14, st14⟩ := callSW X7 hx hZ (y := (⟨"com/example/sondage/sondage/graph/DisjointSetsFindPinLaw", "merge", "([III)Z"⟩ : MethodName)) hown (hw _ (List.mem_of_getElem? (i := 14) rfl)) (hw _ (List.mem_of_getElem? (i := 15) rfl)) (hw _ (List.mem_of_getElem? (i := 16) rfl)) (hw _ (List.mem_of_getElem? (i := 17) rfl)) (by decide) e7 O7 N7 (as' := [(.ref (n0 + a3)), (.int v8), (.int v9)]) (ct3 hw hq14) (W := 0) (kc := 0) (ks := 0) rfl rfl (by decide) (by decide) (g := (mkF m 76 #[.val (.int i0), .val (.int i1), .val (.int i2), .val (.int i3), .val (.int i4), .val (.ref (n0 + a1)), .val (.ref (n0 + a3)), .val (.int (1 : Int32)), .val (.int v8), .val (.int v9), .val (.int v10), .val (.int v11), .val (.int v12), .val (.int v13), .unset, .unset, .unset, .unset, .unset, .unset, .unset, .unset, .unset, .unset] [(.int v9), (.int v8), (.ref (n0 + a3))])) rfl (by rw [hml]; rfl) (rest := []) (lenOf pd_2 rfl) rfl (by show 2 * 0 + _ ≤ _; exact Nat.le_of_eq rfl) (hb hby at_76) (by show _ + 0 ≤ 16; omega) (by show _ + 0 ≤ 128; omega)
  obtain ⟨u17, hk16, hf⟩ := own_bind hf
  obtain ⟨⟨x18, D16⟩, hq16, hf⟩ := own_bind hf
  obtain ⟨_, rfl, hf⟩ := own_letE hf
  obtain ⟨_, rfl, hf⟩ := own_letE hf
  obtain ⟨T16, h16, L16, X16, e16, O16, N16, st16⟩ := callVW X14 hx hZ (y := (⟨"com/example/sondage/sondage/graph/DisjointSets", "union", "(II)Z"⟩ : MethodName)) hown (hw _ (List.mem_of_getElem? (i := 18) rfl)) (hw _ (List.mem_of_getElem? (i := 19) rfl)) (hw _ (List.mem_of_getElem? (i := 21) rfl)) (hw _ (List.mem_of_getElem? (i := 20) rfl)) (hw _ (List.mem_of_getElem? (i := 2) rfl)) (hw _ (List.mem_of_getElem? (i := 22) rfl)) (by decide) e14 O14 N14 hk16 rfl (as' := [(.int v8), (.int v9)]) (ct4 hw hq16) (W := 0) (kc := 0) (ks := 0) rfl rfl (by decide) (by decide) (g := (mkF m 87 #[.val (.int i0), .val (.int i1), .val (.int i2), .val (.int i3), .val (.int i4), .val (.ref (n0 + a1)), .val (.ref (n0 + a3)), .val (.int (1 : Int32)), .val (.int v8), .val (.int v9), .val (.int v10), .val (.int v11), .val (.int v12), .val (.int v13), .val (.int x15), .unset, .unset, .unset, .unset, .unset, .unset, .unset, .unset, .unset] [(.int v9), (.int v8), (.ref (n0 + a1))])) rfl (by rw [hml]; rfl) (rest := []) (lenOf pd_3 rfl) rfl (by show 2 * 0 + _ ≤ _; exact Nat.le_of_eq rfl) (hb hby at_87) (by show _ + 0 ≤ 16; omega) (by show _ + 0 ≤ 128; omega)
  refine Gl.on (B := T16.setTop (mkF m 96 #[.val (.int i0), .val (.int i1), .val (.int i2), .val (.int i3), .val (.int i4), .val (.ref (n0 + a1)), .val (.ref (n0 + a3)), .val (.int (1 : Int32)), .val (.int v8), .val (.int v9), .val (.int v10), .val (.int v11), .val (.int v12), .val (.int v13), .val (.int x15), .val (.int x18), .unset, .unset, .unset, .unset, .unset, .unset, .unset, .unset] [(.int x18), (.int x15)])) (fun t k => ?_) ?_
  · show Steps p.tables e below (T0.setTop (mkF m 0 #[.val (.int i0), .val (.int i1), .val (.int i2), .val (.int i3), .val (.int i4), .unset, .unset, .unset, .unset, .unset, .unset, .unset, .unset, .unset, .unset, .unset, .unset, .unset, .unset, .unset, .unset, .unset, .unset, .unset] [])) _
    refine st1 _ ?_
    show Steps p.tables e below (T1.setTop (mkF m 3 #[.val (.int i0), .val (.int i1), .val (.int i2), .val (.int i3), .val (.int i4), .unset, .unset, .unset, .unset, .unset, .unset, .unset, .unset, .unset, .unset, .unset, .unset, .unset, .unset, .unset, .unset, .unset, .unset, .unset] [(.ref (n0 + a1))])) _
    refine XS.dup X1.here hx rfl (hb hby at_3) rfl rfl ?_
    show Steps p.tables e below (T1.setTop (mkF m 4 #[.val (.int i0), .val (.int i1), .val (.int i2), .val (.int i3), .val (.int i4), .unset, .unset, .unset, .unset, .unset, .unset, .unset, .unset, .unset, .unset, .unset, .unset, .unset, .unset, .unset, .unset, .unset, .unset, .unset] [(.ref (n0 + a1)), (.ref (n0 + a1))])) _
    refine XS.iconst X1.here hx rfl (hb hby at_4) ?_
    show Steps p.tables e below (T1.setTop (mkF m 5 #[.val (.int i0), .val (.int i1), .val (.int i2), .val (.int i3), .val (.int i4), .unset, .unset, .unset, .unset, .unset, .unset, .unset, .unset, .unset, .unset, .unset, .unset, .unset, .unset, .unset, .unset, .unset, .unset, .unset] [(.int (4 : Int32)), (.ref (n0 + a1)), (.ref (n0 + a1))])) _
    refine st2 _ ?_
    show Steps p.tables e below (T2.setTop (mkF m 8 #[.val (.int i0), .val (.int i1), .val (.int i2), .val (.int i3), .val (.int i4), .unset, .unset, .unset, .unset, .unset, .unset, .unset, .unset, .unset, .unset, .unset, .unset, .unset, .unset, .unset, .unset, .unset, .unset, .unset] [(.ref (n0 + a1))])) _
    refine XS.astore X2.here hx rfl (hb hby at_8) rfl rfl (l' := #[.val (.int i0), .val (.int i1), .val (.int i2), .val (.int i3), .val (.int i4), .val (.ref (n0 + a1)), .unset, .unset, .unset, .unset, .unset, .unset, .unset, .unset, .unset, .unset, .unset, .unset, .unset, .unset, .unset, .unset, .unset, .unset]) rfl ?_
    show Steps p.tables e below (T2.setTop (mkF m 10 #[.val (.int i0), .val (.int i1), .val (.int i2), .val (.int i3), .val (.int i4), .val (.ref (n0 + a1)), .unset, .unset, .unset, .unset, .unset, .unset, .unset, .unset, .unset, .unset, .unset, .unset, .unset, .unset, .unset, .unset, .unset, .unset] [])) _
    refine XS.iconst X2.here hx rfl (hb hby at_10) ?_
    show Steps p.tables e below (T2.setTop (mkF m 11 #[.val (.int i0), .val (.int i1), .val (.int i2), .val (.int i3), .val (.int i4), .val (.ref (n0 + a1)), .unset, .unset, .unset, .unset, .unset, .unset, .unset, .unset, .unset, .unset, .unset, .unset, .unset, .unset, .unset, .unset, .unset, .unset] [(.int (4 : Int32))])) _
    refine st3 _ ?_
    show Steps p.tables e below (T3.setTop (mkF m 13 #[.val (.int i0), .val (.int i1), .val (.int i2), .val (.int i3), .val (.int i4), .val (.ref (n0 + a1)), .unset, .unset, .unset, .unset, .unset, .unset, .unset, .unset, .unset, .unset, .unset, .unset, .unset, .unset, .unset, .unset, .unset, .unset] [(.ref (n0 + a3))])) _
    refine XS.dup X3.here hx rfl (hb hby at_13) rfl rfl ?_
    show Steps p.tables e below (T3.setTop (mkF m 14 #[.val (.int i0), .val (.int i1), .val (.int i2), .val (.int i3), .val (.int i4), .val (.ref (n0 + a1)), .unset, .unset, .unset, .unset, .unset, .unset, .unset, .unset, .unset, .unset, .unset, .unset, .unset, .unset, .unset, .unset, .unset, .unset] [(.ref (n0 + a3)), (.ref (n0 + a3))])) _
    refine XS.iconst X3.here hx rfl (hb hby at_14) ?_
    show Steps p.tables e below (T3.setTop (mkF m 15 #[.val (.int i0), .val (.int i1), .val (.int i2), .val (.int i3), .val (.int i4), .val (.ref (n0 + a1)), .unset, .unset, .unset, .unset, .unset, .unset, .unset, .unset, .unset, .unset, .unset, .unset, .unset, .unset, .unset, .unset, .unset, .unset] [(.int (0 : Int32)), (.ref (n0 + a3)), (.ref (n0 + a3))])) _
    refine XS.iconst X3.here hx rfl (hb hby at_15) ?_
    show Steps p.tables e below (T3.setTop (mkF m 16 #[.val (.int i0), .val (.int i1), .val (.int i2), .val (.int i3), .val (.int i4), .val (.ref (n0 + a1)), .unset, .unset, .unset, .unset, .unset, .unset, .unset, .unset, .unset, .unset, .unset, .unset, .unset, .unset, .unset, .unset, .unset, .unset] [(.int (0 : Int32)), (.int (0 : Int32)), (.ref (n0 + a3)), (.ref (n0 + a3))])) _
    refine st4 _ ?_
    show Steps p.tables e below (T4.setTop (mkF m 17 #[.val (.int i0), .val (.int i1), .val (.int i2), .val (.int i3), .val (.int i4), .val (.ref (n0 + a1)), .unset, .unset, .unset, .unset, .unset, .unset, .unset, .unset, .unset, .unset, .unset, .unset, .unset, .unset, .unset, .unset, .unset, .unset] [(.ref (n0 + a3))])) _
    refine XS.dup X4.here hx rfl (hb hby at_17) rfl rfl ?_
    show Steps p.tables e below (T4.setTop (mkF m 18 #[.val (.int i0), .val (.int i1), .val (.int i2), .val (.int i3), .val (.int i4), .val (.ref (n0 + a1)), .unset, .unset, .unset, .unset, .unset, .unset, .unset, .unset, .unset, .unset, .unset, .unset, .unset, .unset, .unset, .unset, .unset, .unset] [(.ref (n0 + a3)), (.ref (n0 + a3))])) _
    refine XS.iconst X4.here hx rfl (hb hby at_18) ?_
    show Steps p.tables e below (T4.setTop (mkF m 19 #[.val (.int i0), .val (.int i1), .val (.int i2), .val (.int i3), .val (.int i4), .val (.ref (n0 + a1)), .unset, .unset, .unset, .unset, .unset, .unset, .unset, .unset, .unset, .unset, .unset, .unset, .unset, .unset, .unset, .unset, .unset, .unset] [(.int (1 : Int32)), (.ref (n0 + a3)), (.ref (n0 + a3))])) _
    refine XS.iconst X4.here hx rfl (hb hby at_19) ?_
    show Steps p.tables e below (T4.setTop (mkF m 20 #[.val (.int i0), .val (.int i1), .val (.int i2), .val (.int i3), .val (.int i4), .val (.ref (n0 + a1)), .unset, .unset, .unset, .unset, .unset, .unset, .unset, .unset, .unset, .unset, .unset, .unset, .unset, .unset, .unset, .unset, .unset, .unset] [(.int (1 : Int32)), (.int (1 : Int32)), (.ref (n0 + a3)), (.ref (n0 + a3))])) _
    refine st5 _ ?_
    show Steps p.tables e below (T5.setTop (mkF m 21 #[.val (.int i0), .val (.int i1), .val (.int i2), .val (.int i3), .val (.int i4), .val (.ref (n0 + a1)), .unset, .unset, .unset, .unset, .unset, .unset, .unset, .unset, .unset, .unset, .unset, .unset, .unset, .unset, .unset, .unset, .unset, .unset] [(.ref (n0 + a3))])) _
    refine XS.dup X5.here hx rfl (hb hby at_21) rfl rfl ?_
    show Steps p.tables e below (T5.setTop (mkF m 22 #[.val (.int i0), .val (.int i1), .val (.int i2), .val (.int i3), .val (.int i4), .val (.ref (n0 + a1)), .unset, .unset, .unset, .unset, .unset, .unset, .unset, .unset, .unset, .unset, .unset, .unset, .unset, .unset, .unset, .unset, .unset, .unset] [(.ref (n0 + a3)), (.ref (n0 + a3))])) _
    refine XS.iconst X5.here hx rfl (hb hby at_22) ?_
    show Steps p.tables e below (T5.setTop (mkF m 23 #[.val (.int i0), .val (.int i1), .val (.int i2), .val (.int i3), .val (.int i4), .val (.ref (n0 + a1)), .unset, .unset, .unset, .unset, .unset, .unset, .unset, .unset, .unset, .unset, .unset, .unset, .unset, .unset, .unset, .unset, .unset, .unset] [(.int (2 : Int32)), (.ref (n0 + a3)), (.ref (n0 + a3))])) _
    refine XS.iconst X5.here hx rfl (hb hby at_23) ?_
    show Steps p.tables e below (T5.setTop (mkF m 24 #[.val (.int i0), .val (.int i1), .val (.int i2), .val (.int i3), .val (.int i4), .val (.ref (n0 + a1)), .unset, .unset, .unset, .unset, .unset, .unset, .unset, .unset, .unset, .unset, .unset, .unset, .unset, .unset, .unset, .unset, .unset, .unset] [(.int (2 : Int32)), (.int (2 : Int32)), (.ref (n0 + a3)), (.ref (n0 + a3))])) _
    refine st6 _ ?_
    show Steps p.tables e below (T6.setTop (mkF m 25 #[.val (.int i0), .val (.int i1), .val (.int i2), .val (.int i3), .val (.int i4), .val (.ref (n0 + a1)), .unset, .unset, .unset, .unset, .unset, .unset, .unset, .unset, .unset, .unset, .unset, .unset, .unset, .unset, .unset, .unset, .unset, .unset] [(.ref (n0 + a3))])) _
    refine XS.dup X6.here hx rfl (hb hby at_25) rfl rfl ?_
    show Steps p.tables e below (T6.setTop (mkF m 26 #[.val (.int i0), .val (.int i1), .val (.int i2), .val (.int i3), .val (.int i4), .val (.ref (n0 + a1)), .unset, .unset, .unset, .unset, .unset, .unset, .unset, .unset, .unset, .unset, .unset, .unset, .unset, .unset, .unset, .unset, .unset, .unset] [(.ref (n0 + a3)), (.ref (n0 + a3))])) _
    refine XS.iconst X6.here hx rfl (hb hby at_26) ?_
    show Steps p.tables e below (T6.setTop (mkF m 27 #[.val (.int i0), .val (.int i1), .val (.int i2), .val (.int i3), .val (.int i4), .val (.ref (n0 + a1)), .unset, .unset, .unset, .unset, .unset, .unset, .unset, .unset, .unset, .unset, .unset, .unset, .unset, .unset, .unset, .unset, .unset, .unset] [(.int (3 : Int32)), (.ref (n0 + a3)), (.ref (n0 + a3))])) _
    refine XS.iconst X6.here hx rfl (hb hby at_27) ?_
    show Steps p.tables e below (T6.setTop (mkF m 28 #[.val (.int i0), .val (.int i1), .val (.int i2), .val (.int i3), .val (.int i4), .val (.ref (n0 + a1)), .unset, .unset, .unset, .unset, .unset, .unset, .unset, .unset, .unset, .unset, .unset, .unset, .unset, .unset, .unset, .unset, .unset, .unset] [(.int (3 : Int32)), (.int (3 : Int32)), (.ref (n0 + a3)), (.ref (n0 + a3))])) _
    refine st7 _ ?_
    show Steps p.tables e below (T7.setTop (mkF m 29 #[.val (.int i0), .val (.int i1), .val (.int i2), .val (.int i3), .val (.int i4), .val (.ref (n0 + a1)), .unset, .unset, .unset, .unset, .unset, .unset, .unset, .unset, .unset, .unset, .unset, .unset, .unset, .unset, .unset, .unset, .unset, .unset] [(.ref (n0 + a3))])) _
    refine XS.astore X7.here hx rfl (hb hby at_29) rfl rfl (l' := #[.val (.int i0), .val (.int i1), .val (.int i2), .val (.int i3), .val (.int i4), .val (.ref (n0 + a1)), .val (.ref (n0 + a3)), .unset, .unset, .unset, .unset, .unset, .unset, .unset, .unset, .unset, .unset, .unset, .unset, .unset, .unset, .unset, .unset, .unset]) rfl ?_
    show Steps p.tables e below (T7.setTop (mkF m 31 #[.val (.int i0), .val (.int i1), .val (.int i2), .val (.int i3), .val (.int i4), .val (.ref (n0 + a1)), .val (.ref (n0 + a3)), .unset, .unset, .unset, .unset, .unset, .unset, .unset, .unset, .unset, .unset, .unset, .unset, .unset, .unset, .unset, .unset, .unset] [])) _
    refine XS.iconst X7.here hx rfl (hb hby at_31) ?_
    show Steps p.tables e below (T7.setTop (mkF m 32 #[.val (.int i0), .val (.int i1), .val (.int i2), .val (.int i3), .val (.int i4), .val (.ref (n0 + a1)), .val (.ref (n0 + a3)), .unset, .unset, .unset, .unset, .unset, .unset, .unset, .unset, .unset, .unset, .unset, .unset, .unset, .unset, .unset, .unset, .unset] [(.int (1 : Int32))])) _
    refine XS.istore X7.here hx rfl (hb hby at_32) rfl (l' := #[.val (.int i0), .val (.int i1), .val (.int i2), .val (.int i3), .val (.int i4), .val (.ref (n0 + a1)), .val (.ref (n0 + a3)), .val (.int (1 : Int32)), .unset, .unset, .unset, .unset, .unset, .unset, .unset, .unset, .unset, .unset, .unset, .unset, .unset, .unset, .unset, .unset]) rfl ?_
    show Steps p.tables e below (T7.setTop (mkF m 34 #[.val (.int i0), .val (.int i1), .val (.int i2), .val (.int i3), .val (.int i4), .val (.ref (n0 + a1)), .val (.ref (n0 + a3)), .val (.int (1 : Int32)), .unset, .unset, .unset, .unset, .unset, .unset, .unset, .unset, .unset, .unset, .unset, .unset, .unset, .unset, .unset, .unset] [])) _
    refine XS.iloadN X7.here hx rfl (hb hby at_34) rfl ?_
    show Steps p.tables e below (T7.setTop (mkF m 35 #[.val (.int i0), .val (.int i1), .val (.int i2), .val (.int i3), .val (.int i4), .val (.ref (n0 + a1)), .val (.ref (n0 + a3)), .val (.int (1 : Int32)), .unset, .unset, .unset, .unset, .unset, .unset, .unset, .unset, .unset, .unset, .unset, .unset, .unset, .unset, .unset, .unset] [(.int i0)])) _
    refine XS.iconst X7.here hx rfl (hb hby at_35) ?_
    show Steps p.tables e below (T7.setTop (mkF m 36 #[.val (.int i0), .val (.int i1), .val (.int i2), .val (.int i3), .val (.int i4), .val (.ref (n0 + a1)), .val (.ref (n0 + a3)), .val (.int (1 : Int32)), .unset, .unset, .unset, .unset, .unset, .unset, .unset, .unset, .unset, .unset, .unset, .unset, .unset, .unset, .unset, .unset] [(.int (3 : Int32)), (.int i0)])) _
    refine XS.iand X7.here hx rfl (hb hby at_36) rfl ?_
    show Steps p.tables e below (T7.setTop (mkF m 37 #[.val (.int i0), .val (.int i1), .val (.int i2), .val (.int i3), .val (.int i4), .val (.ref (n0 + a1)), .val (.ref (n0 + a3)), .val (.int (1 : Int32)), .unset, .unset, .unset, .unset, .unset, .unset, .unset, .unset, .unset, .unset, .unset, .unset, .unset, .unset, .unset, .unset] [(.int (i0 &&& (3 : Int32)))])) _
    refine own_to (congrArg (fun z => T7.setTop (mkF m 37 #[.val (.int i0), .val (.int i1), .val (.int i2), .val (.int i3), .val (.int i4), .val (.ref (n0 + a1)), .val (.ref (n0 + a3)), .val (.int (1 : Int32)), .unset, .unset, .unset, .unset, .unset, .unset, .unset, .unset, .unset, .unset, .unset, .unset, .unset, .unset, .unset, .unset] [(.int z)])) hv8) ?_
    show Steps p.tables e below (T7.setTop (mkF m 37 #[.val (.int i0), .val (.int i1), .val (.int i2), .val (.int i3), .val (.int i4), .val (.ref (n0 + a1)), .val (.ref (n0 + a3)), .val (.int (1 : Int32)), .unset, .unset, .unset, .unset, .unset, .unset, .unset, .unset, .unset, .unset, .unset, .unset, .unset, .unset, .unset, .unset] [(.int v8)])) _
    refine XS.istore X7.here hx rfl (hb hby at_37) rfl (l' := #[.val (.int i0), .val (.int i1), .val (.int i2), .val (.int i3), .val (.int i4), .val (.ref (n0 + a1)), .val (.ref (n0 + a3)), .val (.int (1 : Int32)), .val (.int v8), .unset, .unset, .unset, .unset, .unset, .unset, .unset, .unset, .unset, .unset, .unset, .unset, .unset, .unset, .unset]) rfl ?_
    show Steps p.tables e below (T7.setTop (mkF m 39 #[.val (.int i0), .val (.int i1), .val (.int i2), .val (.int i3), .val (.int i4), .val (.ref (n0 + a1)), .val (.ref (n0 + a3)), .val (.int (1 : Int32)), .val (.int v8), .unset, .unset, .unset, .unset, .unset, .unset, .unset, .unset, .unset, .unset, .unset, .unset, .unset, .unset, .unset] [])) _
    refine XS.iloadN X7.here hx rfl (hb hby at_39) rfl ?_
    show Steps p.tables e below (T7.setTop (mkF m 40 #[.val (.int i0), .val (.int i1), .val (.int i2), .val (.int i3), .val (.int i4), .val (.ref (n0 + a1)), .val (.ref (n0 + a3)), .val (.int (1 : Int32)), .val (.int v8), .unset, .unset, .unset, .unset, .unset, .unset, .unset, .unset, .unset, .unset, .unset, .unset, .unset, .unset, .unset] [(.int i0)])) _
    refine XS.iconst X7.here hx rfl (hb hby at_40) ?_
    show Steps p.tables e below (T7.setTop (mkF m 41 #[.val (.int i0), .val (.int i1), .val (.int i2), .val (.int i3), .val (.int i4), .val (.ref (n0 + a1)), .val (.ref (n0 + a3)), .val (.int (1 : Int32)), .val (.int v8), .unset, .unset, .unset, .unset, .unset, .unset, .unset, .unset, .unset, .unset, .unset, .unset, .unset, .unset, .unset] [(.int (2 : Int32)), (.int i0)])) _
    refine XS.iushr X7.here hx rfl (hb hby at_41) rfl ?_
    show Steps p.tables e below (T7.setTop (mkF m 42 #[.val (.int i0), .val (.int i1), .val (.int i2), .val (.int i3), .val (.int i4), .val (.ref (n0 + a1)), .val (.ref (n0 + a3)), .val (.int (1 : Int32)), .val (.int v8), .unset, .unset, .unset, .unset, .unset, .unset, .unset, .unset, .unset, .unset, .unset, .unset, .unset, .unset, .unset] [(.int ((i0.toUInt32 >>> ((2 : Int32) &&& 31).toUInt32).toInt32))])) _
    refine XS.iconst X7.here hx rfl (hb hby at_42) ?_
    show Steps p.tables e below (T7.setTop (mkF m 43 #[.val (.int i0), .val (.int i1), .val (.int i2), .val (.int i3), .val (.int i4), .val (.ref (n0 + a1)), .val (.ref (n0 + a3)), .val (.int (1 : Int32)), .val (.int v8), .unset, .unset, .unset, .unset, .unset, .unset, .unset, .unset, .unset, .unset, .unset, .unset, .unset, .unset, .unset] [(.int (3 : Int32)), (.int ((i0.toUInt32 >>> ((2 : Int32) &&& 31).toUInt32).toInt32))])) _
    refine XS.iand X7.here hx rfl (hb hby at_43) rfl ?_
    show Steps p.tables e below (T7.setTop (mkF m 44 #[.val (.int i0), .val (.int i1), .val (.int i2), .val (.int i3), .val (.int i4), .val (.ref (n0 + a1)), .val (.ref (n0 + a3)), .val (.int (1 : Int32)), .val (.int v8), .unset, .unset, .unset, .unset, .unset, .unset, .unset, .unset, .unset, .unset, .unset, .unset, .unset, .unset, .unset] [(.int (((i0.toUInt32 >>> ((2 : Int32) &&& 31).toUInt32).toInt32) &&& (3 : Int32)))])) _
    refine own_to (congrArg (fun z => T7.setTop (mkF m 44 #[.val (.int i0), .val (.int i1), .val (.int i2), .val (.int i3), .val (.int i4), .val (.ref (n0 + a1)), .val (.ref (n0 + a3)), .val (.int (1 : Int32)), .val (.int v8), .unset, .unset, .unset, .unset, .unset, .unset, .unset, .unset, .unset, .unset, .unset, .unset, .unset, .unset, .unset] [(.int z)])) hv9) ?_
    show Steps p.tables e below (T7.setTop (mkF m 44 #[.val (.int i0), .val (.int i1), .val (.int i2), .val (.int i3), .val (.int i4), .val (.ref (n0 + a1)), .val (.ref (n0 + a3)), .val (.int (1 : Int32)), .val (.int v8), .unset, .unset, .unset, .unset, .unset, .unset, .unset, .unset, .unset, .unset, .unset, .unset, .unset, .unset, .unset] [(.int v9)])) _
    refine XS.istore X7.here hx rfl (hb hby at_44) rfl (l' := #[.val (.int i0), .val (.int i1), .val (.int i2), .val (.int i3), .val (.int i4), .val (.ref (n0 + a1)), .val (.ref (n0 + a3)), .val (.int (1 : Int32)), .val (.int v8), .val (.int v9), .unset, .unset, .unset, .unset, .unset, .unset, .unset, .unset, .unset, .unset, .unset, .unset, .unset, .unset]) rfl ?_
    show Steps p.tables e below (T7.setTop (mkF m 46 #[.val (.int i0), .val (.int i1), .val (.int i2), .val (.int i3), .val (.int i4), .val (.ref (n0 + a1)), .val (.ref (n0 + a3)), .val (.int (1 : Int32)), .val (.int v8), .val (.int v9), .unset, .unset, .unset, .unset, .unset, .unset, .unset, .unset, .unset, .unset, .unset, .unset, .unset, .unset] [])) _
    refine XS.iloadN X7.here hx rfl (hb hby at_46) rfl ?_
    show Steps p.tables e below (T7.setTop (mkF m 47 #[.val (.int i0), .val (.int i1), .val (.int i2), .val (.int i3), .val (.int i4), .val (.ref (n0 + a1)), .val (.ref (n0 + a3)), .val (.int (1 : Int32)), .val (.int v8), .val (.int v9), .unset, .unset, .unset, .unset, .unset, .unset, .unset, .unset, .unset, .unset, .unset, .unset, .unset, .unset] [(.int i1)])) _
    refine XS.iconst X7.here hx rfl (hb hby at_47) ?_
    show Steps p.tables e below (T7.setTop (mkF m 48 #[.val (.int i0), .val (.int i1), .val (.int i2), .val (.int i3), .val (.int i4), .val (.ref (n0 + a1)), .val (.ref (n0 + a3)), .val (.int (1 : Int32)), .val (.int v8), .val (.int v9), .unset, .unset, .unset, .unset, .unset, .unset, .unset, .unset, .unset, .unset, .unset, .unset, .unset, .unset] [(.int (3 : Int32)), (.int i1)])) _
    refine XS.iand X7.here hx rfl (hb hby at_48) rfl ?_
    show Steps p.tables e below (T7.setTop (mkF m 49 #[.val (.int i0), .val (.int i1), .val (.int i2), .val (.int i3), .val (.int i4), .val (.ref (n0 + a1)), .val (.ref (n0 + a3)), .val (.int (1 : Int32)), .val (.int v8), .val (.int v9), .unset, .unset, .unset, .unset, .unset, .unset, .unset, .unset, .unset, .unset, .unset, .unset, .unset, .unset] [(.int (i1 &&& (3 : Int32)))])) _
    refine own_to (congrArg (fun z => T7.setTop (mkF m 49 #[.val (.int i0), .val (.int i1), .val (.int i2), .val (.int i3), .val (.int i4), .val (.ref (n0 + a1)), .val (.ref (n0 + a3)), .val (.int (1 : Int32)), .val (.int v8), .val (.int v9), .unset, .unset, .unset, .unset, .unset, .unset, .unset, .unset, .unset, .unset, .unset, .unset, .unset, .unset] [(.int z)])) hv10) ?_
    show Steps p.tables e below (T7.setTop (mkF m 49 #[.val (.int i0), .val (.int i1), .val (.int i2), .val (.int i3), .val (.int i4), .val (.ref (n0 + a1)), .val (.ref (n0 + a3)), .val (.int (1 : Int32)), .val (.int v8), .val (.int v9), .unset, .unset, .unset, .unset, .unset, .unset, .unset, .unset, .unset, .unset, .unset, .unset, .unset, .unset] [(.int v10)])) _
    refine XS.istore X7.here hx rfl (hb hby at_49) rfl (l' := #[.val (.int i0), .val (.int i1), .val (.int i2), .val (.int i3), .val (.int i4), .val (.ref (n0 + a1)), .val (.ref (n0 + a3)), .val (.int (1 : Int32)), .val (.int v8), .val (.int v9), .val (.int v10), .unset, .unset, .unset, .unset, .unset, .unset, .unset, .unset, .unset, .unset, .unset, .unset, .unset]) rfl ?_
    show Steps p.tables e below (T7.setTop (mkF m 51 #[.val (.int i0), .val (.int i1), .val (.int i2), .val (.int i3), .val (.int i4), .val (.ref (n0 + a1)), .val (.ref (n0 + a3)), .val (.int (1 : Int32)), .val (.int v8), .val (.int v9), .val (.int v10), .unset, .unset, .unset, .unset, .unset, .unset, .unset, .unset, .unset, .unset, .unset, .unset, .unset] [])) _
    refine XS.iloadN X7.here hx rfl (hb hby at_51) rfl ?_
    show Steps p.tables e below (T7.setTop (mkF m 52 #[.val (.int i0), .val (.int i1), .val (.int i2), .val (.int i3), .val (.int i4), .val (.ref (n0 + a1)), .val (.ref (n0 + a3)), .val (.int (1 : Int32)), .val (.int v8), .val (.int v9), .val (.int v10), .unset, .unset, .unset, .unset, .unset, .unset, .unset, .unset, .unset, .unset, .unset, .unset, .unset] [(.int i1)])) _
    refine XS.iconst X7.here hx rfl (hb hby at_52) ?_
    show Steps p.tables e below (T7.setTop (mkF m 53 #[.val (.int i0), .val (.int i1), .val (.int i2), .val (.int i3), .val (.int i4), .val (.ref (n0 + a1)), .val (.ref (n0 + a3)), .val (.int (1 : Int32)), .val (.int v8), .val (.int v9), .val (.int v10), .unset, .unset, .unset, .unset, .unset, .unset, .unset, .unset, .unset, .unset, .unset, .unset, .unset] [(.int (2 : Int32)), (.int i1)])) _
    refine XS.iushr X7.here hx rfl (hb hby at_53) rfl ?_
    show Steps p.tables e below (T7.setTop (mkF m 54 #[.val (.int i0), .val (.int i1), .val (.int i2), .val (.int i3), .val (.int i4), .val (.ref (n0 + a1)), .val (.ref (n0 + a3)), .val (.int (1 : Int32)), .val (.int v8), .val (.int v9), .val (.int v10), .unset, .unset, .unset, .unset, .unset, .unset, .unset, .unset, .unset, .unset, .unset, .unset, .unset] [(.int ((i1.toUInt32 >>> ((2 : Int32) &&& 31).toUInt32).toInt32))])) _
    refine XS.iconst X7.here hx rfl (hb hby at_54) ?_
    show Steps p.tables e below (T7.setTop (mkF m 55 #[.val (.int i0), .val (.int i1), .val (.int i2), .val (.int i3), .val (.int i4), .val (.ref (n0 + a1)), .val (.ref (n0 + a3)), .val (.int (1 : Int32)), .val (.int v8), .val (.int v9), .val (.int v10), .unset, .unset, .unset, .unset, .unset, .unset, .unset, .unset, .unset, .unset, .unset, .unset, .unset] [(.int (3 : Int32)), (.int ((i1.toUInt32 >>> ((2 : Int32) &&& 31).toUInt32).toInt32))])) _
    refine XS.iand X7.here hx rfl (hb hby at_55) rfl ?_
    show Steps p.tables e below (T7.setTop (mkF m 56 #[.val (.int i0), .val (.int i1), .val (.int i2), .val (.int i3), .val (.int i4), .val (.ref (n0 + a1)), .val (.ref (n0 + a3)), .val (.int (1 : Int32)), .val (.int v8), .val (.int v9), .val (.int v10), .unset, .unset, .unset, .unset, .unset, .unset, .unset, .unset, .unset, .unset, .unset, .unset, .unset] [(.int (((i1.toUInt32 >>> ((2 : Int32) &&& 31).toUInt32).toInt32) &&& (3 : Int32)))])) _
    refine own_to (congrArg (fun z => T7.setTop (mkF m 56 #[.val (.int i0), .val (.int i1), .val (.int i2), .val (.int i3), .val (.int i4), .val (.ref (n0 + a1)), .val (.ref (n0 + a3)), .val (.int (1 : Int32)), .val (.int v8), .val (.int v9), .val (.int v10), .unset, .unset, .unset, .unset, .unset, .unset, .unset, .unset, .unset, .unset, .unset, .unset, .unset] [(.int z)])) hv11) ?_
    show Steps p.tables e below (T7.setTop (mkF m 56 #[.val (.int i0), .val (.int i1), .val (.int i2), .val (.int i3), .val (.int i4), .val (.ref (n0 + a1)), .val (.ref (n0 + a3)), .val (.int (1 : Int32)), .val (.int v8), .val (.int v9), .val (.int v10), .unset, .unset, .unset, .unset, .unset, .unset, .unset, .unset, .unset, .unset, .unset, .unset, .unset] [(.int v11)])) _
    refine XS.istore X7.here hx rfl (hb hby at_56) rfl (l' := #[.val (.int i0), .val (.int i1), .val (.int i2), .val (.int i3), .val (.int i4), .val (.ref (n0 + a1)), .val (.ref (n0 + a3)), .val (.int (1 : Int32)), .val (.int v8), .val (.int v9), .val (.int v10), .val (.int v11), .unset, .unset, .unset, .unset, .unset, .unset, .unset, .unset, .unset, .unset, .unset, .unset]) rfl ?_
    show Steps p.tables e below (T7.setTop (mkF m 58 #[.val (.int i0), .val (.int i1), .val (.int i2), .val (.int i3), .val (.int i4), .val (.ref (n0 + a1)), .val (.ref (n0 + a3)), .val (.int (1 : Int32)), .val (.int v8), .val (.int v9), .val (.int v10), .val (.int v11), .unset, .unset, .unset, .unset, .unset, .unset, .unset, .unset, .unset, .unset, .unset, .unset] [])) _
    refine XS.iloadN X7.here hx rfl (hb hby at_58) rfl ?_
    show Steps p.tables e below (T7.setTop (mkF m 59 #[.val (.int i0), .val (.int i1), .val (.int i2), .val (.int i3), .val (.int i4), .val (.ref (n0 + a1)), .val (.ref (n0 + a3)), .val (.int (1 : Int32)), .val (.int v8), .val (.int v9), .val (.int v10), .val (.int v11), .unset, .unset, .unset, .unset, .unset, .unset, .unset, .unset, .unset, .unset, .unset, .unset] [(.int i2)])) _
    refine XS.iconst X7.here hx rfl (hb hby at_59) ?_
    show Steps p.tables e below (T7.setTop (mkF m 60 #[.val (.int i0), .val (.int i1), .val (.int i2), .val (.int i3), .val (.int i4), .val (.ref (n0 + a1)), .val (.ref (n0 + a3)), .val (.int (1 : Int32)), .val (.int v8), .val (.int v9), .val (.int v10), .val (.int v11), .unset, .unset, .unset, .unset, .unset, .unset, .unset, .unset, .unset, .unset, .unset, .unset] [(.int (3 : Int32)), (.int i2)])) _
    refine XS.iand X7.here hx rfl (hb hby at_60) rfl ?_
    show Steps p.tables e below (T7.setTop (mkF m 61 #[.val (.int i0), .val (.int i1), .val (.int i2), .val (.int i3), .val (.int i4), .val (.ref (n0 + a1)), .val (.ref (n0 + a3)), .val (.int (1 : Int32)), .val (.int v8), .val (.int v9), .val (.int v10), .val (.int v11), .unset, .unset, .unset, .unset, .unset, .unset, .unset, .unset, .unset, .unset, .unset, .unset] [(.int (i2 &&& (3 : Int32)))])) _
    refine own_to (congrArg (fun z => T7.setTop (mkF m 61 #[.val (.int i0), .val (.int i1), .val (.int i2), .val (.int i3), .val (.int i4), .val (.ref (n0 + a1)), .val (.ref (n0 + a3)), .val (.int (1 : Int32)), .val (.int v8), .val (.int v9), .val (.int v10), .val (.int v11), .unset, .unset, .unset, .unset, .unset, .unset, .unset, .unset, .unset, .unset, .unset, .unset] [(.int z)])) hv12) ?_
    show Steps p.tables e below (T7.setTop (mkF m 61 #[.val (.int i0), .val (.int i1), .val (.int i2), .val (.int i3), .val (.int i4), .val (.ref (n0 + a1)), .val (.ref (n0 + a3)), .val (.int (1 : Int32)), .val (.int v8), .val (.int v9), .val (.int v10), .val (.int v11), .unset, .unset, .unset, .unset, .unset, .unset, .unset, .unset, .unset, .unset, .unset, .unset] [(.int v12)])) _
    refine XS.istore X7.here hx rfl (hb hby at_61) rfl (l' := #[.val (.int i0), .val (.int i1), .val (.int i2), .val (.int i3), .val (.int i4), .val (.ref (n0 + a1)), .val (.ref (n0 + a3)), .val (.int (1 : Int32)), .val (.int v8), .val (.int v9), .val (.int v10), .val (.int v11), .val (.int v12), .unset, .unset, .unset, .unset, .unset, .unset, .unset, .unset, .unset, .unset, .unset]) rfl ?_
    show Steps p.tables e below (T7.setTop (mkF m 63 #[.val (.int i0), .val (.int i1), .val (.int i2), .val (.int i3), .val (.int i4), .val (.ref (n0 + a1)), .val (.ref (n0 + a3)), .val (.int (1 : Int32)), .val (.int v8), .val (.int v9), .val (.int v10), .val (.int v11), .val (.int v12), .unset, .unset, .unset, .unset, .unset, .unset, .unset, .unset, .unset, .unset, .unset] [])) _
    refine XS.iloadN X7.here hx rfl (hb hby at_63) rfl ?_
    show Steps p.tables e below (T7.setTop (mkF m 64 #[.val (.int i0), .val (.int i1), .val (.int i2), .val (.int i3), .val (.int i4), .val (.ref (n0 + a1)), .val (.ref (n0 + a3)), .val (.int (1 : Int32)), .val (.int v8), .val (.int v9), .val (.int v10), .val (.int v11), .val (.int v12), .unset, .unset, .unset, .unset, .unset, .unset, .unset, .unset, .unset, .unset, .unset] [(.int i2)])) _
    refine XS.iconst X7.here hx rfl (hb hby at_64) ?_
    show Steps p.tables e below (T7.setTop (mkF m 65 #[.val (.int i0), .val (.int i1), .val (.int i2), .val (.int i3), .val (.int i4), .val (.ref (n0 + a1)), .val (.ref (n0 + a3)), .val (.int (1 : Int32)), .val (.int v8), .val (.int v9), .val (.int v10), .val (.int v11), .val (.int v12), .unset, .unset, .unset, .unset, .unset, .unset, .unset, .unset, .unset, .unset, .unset] [(.int (2 : Int32)), (.int i2)])) _
    refine XS.iushr X7.here hx rfl (hb hby at_65) rfl ?_
    show Steps p.tables e below (T7.setTop (mkF m 66 #[.val (.int i0), .val (.int i1), .val (.int i2), .val (.int i3), .val (.int i4), .val (.ref (n0 + a1)), .val (.ref (n0 + a3)), .val (.int (1 : Int32)), .val (.int v8), .val (.int v9), .val (.int v10), .val (.int v11), .val (.int v12), .unset, .unset, .unset, .unset, .unset, .unset, .unset, .unset, .unset, .unset, .unset] [(.int ((i2.toUInt32 >>> ((2 : Int32) &&& 31).toUInt32).toInt32))])) _
    refine XS.iconst X7.here hx rfl (hb hby at_66) ?_
    show Steps p.tables e below (T7.setTop (mkF m 67 #[.val (.int i0), .val (.int i1), .val (.int i2), .val (.int i3), .val (.int i4), .val (.ref (n0 + a1)), .val (.ref (n0 + a3)), .val (.int (1 : Int32)), .val (.int v8), .val (.int v9), .val (.int v10), .val (.int v11), .val (.int v12), .unset, .unset, .unset, .unset, .unset, .unset, .unset, .unset, .unset, .unset, .unset] [(.int (3 : Int32)), (.int ((i2.toUInt32 >>> ((2 : Int32) &&& 31).toUInt32).toInt32))])) _
    refine XS.iand X7.here hx rfl (hb hby at_67) rfl ?_
    show Steps p.tables e below (T7.setTop (mkF m 68 #[.val (.int i0), .val (.int i1), .val (.int i2), .val (.int i3), .val (.int i4), .val (.ref (n0 + a1)), .val (.ref (n0 + a3)), .val (.int (1 : Int32)), .val (.int v8), .val (.int v9), .val (.int v10), .val (.int v11), .val (.int v12), .unset, .unset, .unset, .unset, .unset, .unset, .unset, .unset, .unset, .unset, .unset] [(.int (((i2.toUInt32 >>> ((2 : Int32) &&& 31).toUInt32).toInt32) &&& (3 : Int32)))])) _
    refine own_to (congrArg (fun z => T7.setTop (mkF m 68 #[.val (.int i0), .val (.int i1), .val (.int i2), .val (.int i3), .val (.int i4), .val (.ref (n0 + a1)), .val (.ref (n0 + a3)), .val (.int (1 : Int32)), .val (.int v8), .val (.int v9), .val (.int v10), .val (.int v11), .val (.int v12), .unset, .unset, .unset, .unset, .unset, .unset, .unset, .unset, .unset, .unset, .unset] [(.int z)])) hv13) ?_
    show Steps p.tables e below (T7.setTop (mkF m 68 #[.val (.int i0), .val (.int i1), .val (.int i2), .val (.int i3), .val (.int i4), .val (.ref (n0 + a1)), .val (.ref (n0 + a3)), .val (.int (1 : Int32)), .val (.int v8), .val (.int v9), .val (.int v10), .val (.int v11), .val (.int v12), .unset, .unset, .unset, .unset, .unset, .unset, .unset, .unset, .unset, .unset, .unset] [(.int v13)])) _
    refine XS.istore X7.here hx rfl (hb hby at_68) rfl (l' := #[.val (.int i0), .val (.int i1), .val (.int i2), .val (.int i3), .val (.int i4), .val (.ref (n0 + a1)), .val (.ref (n0 + a3)), .val (.int (1 : Int32)), .val (.int v8), .val (.int v9), .val (.int v10), .val (.int v11), .val (.int v12), .val (.int v13), .unset, .unset, .unset, .unset, .unset, .unset, .unset, .unset, .unset, .unset]) rfl ?_
    show Steps p.tables e below (T7.setTop (mkF m 70 #[.val (.int i0), .val (.int i1), .val (.int i2), .val (.int i3), .val (.int i4), .val (.ref (n0 + a1)), .val (.ref (n0 + a3)), .val (.int (1 : Int32)), .val (.int v8), .val (.int v9), .val (.int v10), .val (.int v11), .val (.int v12), .val (.int v13), .unset, .unset, .unset, .unset, .unset, .unset, .unset, .unset, .unset, .unset] [])) _
    refine XS.aload X7.here hx rfl (hb hby at_70) rfl rfl ?_
    show Steps p.tables e below (T7.setTop (mkF m 72 #[.val (.int i0), .val (.int i1), .val (.int i2), .val (.int i3), .val (.int i4), .val (.ref (n0 + a1)), .val (.ref (n0 + a3)), .val (.int (1 : Int32)), .val (.int v8), .val (.int v9), .val (.int v10), .val (.int v11), .val (.int v12), .val (.int v13), .unset, .unset, .unset, .unset, .unset, .unset, .unset, .unset, .unset, .unset] [(.ref (n0 + a3))])) _
    refine XS.iload X7.here hx rfl (hb hby at_72) rfl ?_
    show Steps p.tables e below (T7.setTop (mkF m 74 #[.val (.int i0), .val (.int i1), .val (.int i2), .val (.int i3), .val (.int i4), .val (.ref (n0 + a1)), .val (.ref (n0 + a3)), .val (.int (1 : Int32)), .val (.int v8), .val (.int v9), .val (.int v10), .val (.int v11), .val (.int v12), .val (.int v13), .unset, .unset, .unset, .unset, .unset, .unset, .unset, .unset, .unset, .unset] [(.int v8), (.ref (n0 + a3))])) _
    refine XS.iload X7.here hx rfl (hb hby at_74) rfl ?_
    show Steps p.tables e below (T7.setTop (mkF m 76 #[.val (.int i0), .val (.int i1), .val (.int i2), .val (.int i3), .val (.int i4), .val (.ref (n0 + a1)), .val (.ref (n0 + a3)), .val (.int (1 : Int32)), .val (.int v8), .val (.int v9), .val (.int v10), .val (.int v11), .val (.int v12), .val (.int v13), .unset, .unset, .unset, .unset, .unset, .unset, .unset, .unset, .unset, .unset] [(.int v9), (.int v8), (.ref (n0 + a3))])) _
    refine st14 _ ?_
    show Steps p.tables e below (T14.setTop (mkF m 79 #[.val (.int i0), .val (.int i1), .val (.int i2), .val (.int i3), .val (.int i4), .val (.ref (n0 + a1)), .val (.ref (n0 + a3)), .val (.int (1 : Int32)), .val (.int v8), .val (.int v9), .val (.int v10), .val (.int v11), .val (.int v12), .val (.int v13), .unset, .unset, .unset, .unset, .unset, .unset, .unset, .unset, .unset, .unset] [(.int x15)])) _
    refine XS.istore X14.here hx rfl (hb hby at_79) rfl (l' := #[.val (.int i0), .val (.int i1), .val (.int i2), .val (.int i3), .val (.int i4), .val (.ref (n0 + a1)), .val (.ref (n0 + a3)), .val (.int (1 : Int32)), .val (.int v8), .val (.int v9), .val (.int v10), .val (.int v11), .val (.int v12), .val (.int v13), .val (.int x15), .unset, .unset, .unset, .unset, .unset, .unset, .unset, .unset, .unset]) rfl ?_
    show Steps p.tables e below (T14.setTop (mkF m 81 #[.val (.int i0), .val (.int i1), .val (.int i2), .val (.int i3), .val (.int i4), .val (.ref (n0 + a1)), .val (.ref (n0 + a3)), .val (.int (1 : Int32)), .val (.int v8), .val (.int v9), .val (.int v10), .val (.int v11), .val (.int v12), .val (.int v13), .val (.int x15), .unset, .unset, .unset, .unset, .unset, .unset, .unset, .unset, .unset] [])) _
    refine XS.aload X14.here hx rfl (hb hby at_81) rfl rfl ?_
    show Steps p.tables e below (T14.setTop (mkF m 83 #[.val (.int i0), .val (.int i1), .val (.int i2), .val (.int i3), .val (.int i4), .val (.ref (n0 + a1)), .val (.ref (n0 + a3)), .val (.int (1 : Int32)), .val (.int v8), .val (.int v9), .val (.int v10), .val (.int v11), .val (.int v12), .val (.int v13), .val (.int x15), .unset, .unset, .unset, .unset, .unset, .unset, .unset, .unset, .unset] [(.ref (n0 + a1))])) _
    refine XS.iload X14.here hx rfl (hb hby at_83) rfl ?_
    show Steps p.tables e below (T14.setTop (mkF m 85 #[.val (.int i0), .val (.int i1), .val (.int i2), .val (.int i3), .val (.int i4), .val (.ref (n0 + a1)), .val (.ref (n0 + a3)), .val (.int (1 : Int32)), .val (.int v8), .val (.int v9), .val (.int v10), .val (.int v11), .val (.int v12), .val (.int v13), .val (.int x15), .unset, .unset, .unset, .unset, .unset, .unset, .unset, .unset, .unset] [(.int v8), (.ref (n0 + a1))])) _
    refine XS.iload X14.here hx rfl (hb hby at_85) rfl ?_
    show Steps p.tables e below (T14.setTop (mkF m 87 #[.val (.int i0), .val (.int i1), .val (.int i2), .val (.int i3), .val (.int i4), .val (.ref (n0 + a1)), .val (.ref (n0 + a3)), .val (.int (1 : Int32)), .val (.int v8), .val (.int v9), .val (.int v10), .val (.int v11), .val (.int v12), .val (.int v13), .val (.int x15), .unset, .unset, .unset, .unset, .unset, .unset, .unset, .unset, .unset] [(.int v9), (.int v8), (.ref (n0 + a1))])) _
    refine st16 _ ?_
    show Steps p.tables e below (T16.setTop (mkF m 90 #[.val (.int i0), .val (.int i1), .val (.int i2), .val (.int i3), .val (.int i4), .val (.ref (n0 + a1)), .val (.ref (n0 + a3)), .val (.int (1 : Int32)), .val (.int v8), .val (.int v9), .val (.int v10), .val (.int v11), .val (.int v12), .val (.int v13), .val (.int x15), .unset, .unset, .unset, .unset, .unset, .unset, .unset, .unset, .unset] [(.int x18)])) _
    refine XS.istore X16.here hx rfl (hb hby at_90) rfl (l' := #[.val (.int i0), .val (.int i1), .val (.int i2), .val (.int i3), .val (.int i4), .val (.ref (n0 + a1)), .val (.ref (n0 + a3)), .val (.int (1 : Int32)), .val (.int v8), .val (.int v9), .val (.int v10), .val (.int v11), .val (.int v12), .val (.int v13), .val (.int x15), .val (.int x18), .unset, .unset, .unset, .unset, .unset, .unset, .unset, .unset]) rfl ?_
    show Steps p.tables e below (T16.setTop (mkF m 92 #[.val (.int i0), .val (.int i1), .val (.int i2), .val (.int i3), .val (.int i4), .val (.ref (n0 + a1)), .val (.ref (n0 + a3)), .val (.int (1 : Int32)), .val (.int v8), .val (.int v9), .val (.int v10), .val (.int v11), .val (.int v12), .val (.int v13), .val (.int x15), .val (.int x18), .unset, .unset, .unset, .unset, .unset, .unset, .unset, .unset] [])) _
    refine XS.iload X16.here hx rfl (hb hby at_92) rfl ?_
    show Steps p.tables e below (T16.setTop (mkF m 94 #[.val (.int i0), .val (.int i1), .val (.int i2), .val (.int i3), .val (.int i4), .val (.ref (n0 + a1)), .val (.ref (n0 + a3)), .val (.int (1 : Int32)), .val (.int v8), .val (.int v9), .val (.int v10), .val (.int v11), .val (.int v12), .val (.int v13), .val (.int x15), .val (.int x18), .unset, .unset, .unset, .unset, .unset, .unset, .unset, .unset] [(.int x15)])) _
    refine XS.iload X16.here hx rfl (hb hby at_94) rfl ?_
    exact k
  by_cases hc19 : x15 = x18
  · rw [if_pos hc19] at hf
    refine Gl.on (B := T16.setTop (mkF m 102 #[.val (.int i0), .val (.int i1), .val (.int i2), .val (.int i3), .val (.int i4), .val (.ref (n0 + a1)), .val (.ref (n0 + a3)), .val (.int (1 : Int32)), .val (.int v8), .val (.int v9), .val (.int v10), .val (.int v11), .val (.int v12), .val (.int v13), .val (.int x15), .val (.int x18), .unset, .unset, .unset, .unset, .unset, .unset, .unset, .unset] [])) (fun t k => ?_) ?_
    · show Steps p.tables e below (T16.setTop (mkF m 96 #[.val (.int i0), .val (.int i1), .val (.int i2), .val (.int i3), .val (.int i4), .val (.ref (n0 + a1)), .val (.ref (n0 + a3)), .val (.int (1 : Int32)), .val (.int v8), .val (.int v9), .val (.int v10), .val (.int v11), .val (.int v12), .val (.int v13), .val (.int x15), .val (.int x18), .unset, .unset, .unset, .unset, .unset, .unset, .unset, .unset] [(.int x18), (.int x15)])) _
      refine XS.icmpYes X16.here hx rfl (pc0 := 96) (pc' := 102) rfl (hb hby at_96) rfl (teq hc19).1 (by decide) (by decide) ?_
      exact k
    exact bt0_102 hw hC X16 e16 O16 N16 (by omega) (by omega) hf
  · rw [if_neg hc19] at hf
    refine Gl.on (B := T16.setTop (mkF m 102 #[.val (.int i0), .val (.int i1), .val (.int i2), .val (.int i3), .val (.int i4), .val (.ref (n0 + a1)), .val (.ref (n0 + a3)), .val (.int (0 : Int32)), .val (.int v8), .val (.int v9), .val (.int v10), .val (.int v11), .val (.int v12), .val (.int v13), .val (.int x15), .val (.int x18), .unset, .unset, .unset, .unset, .unset, .unset, .unset, .unset] [])) (fun t k => ?_) ?_
    · show Steps p.tables e below (T16.setTop (mkF m 96 #[.val (.int i0), .val (.int i1), .val (.int i2), .val (.int i3), .val (.int i4), .val (.ref (n0 + a1)), .val (.ref (n0 + a3)), .val (.int (1 : Int32)), .val (.int v8), .val (.int v9), .val (.int v10), .val (.int v11), .val (.int v12), .val (.int v13), .val (.int x15), .val (.int x18), .unset, .unset, .unset, .unset, .unset, .unset, .unset, .unset] [(.int x18), (.int x15)])) _
      refine XS.icmpNo X16.here hx rfl (hb hby at_96) rfl (feq hc19).1 ?_
      show Steps p.tables e below (T16.setTop (mkF m 99 #[.val (.int i0), .val (.int i1), .val (.int i2), .val (.int i3), .val (.int i4), .val (.ref (n0 + a1)), .val (.ref (n0 + a3)), .val (.int (1 : Int32)), .val (.int v8), .val (.int v9), .val (.int v10), .val (.int v11), .val (.int v12), .val (.int v13), .val (.int x15), .val (.int x18), .unset, .unset, .unset, .unset, .unset, .unset, .unset, .unset] [])) _
      refine XS.iconst X16.here hx rfl (hb hby at_99) ?_
      show Steps p.tables e below (T16.setTop (mkF m 100 #[.val (.int i0), .val (.int i1), .val (.int i2), .val (.int i3), .val (.int i4), .val (.ref (n0 + a1)), .val (.ref (n0 + a3)), .val (.int (1 : Int32)), .val (.int v8), .val (.int v9), .val (.int v10), .val (.int v11), .val (.int v12), .val (.int v13), .val (.int x15), .val (.int x18), .unset, .unset, .unset, .unset, .unset, .unset, .unset, .unset] [(.int (0 : Int32))])) _
      refine XS.istore X16.here hx rfl (hb hby at_100) rfl (l' := #[.val (.int i0), .val (.int i1), .val (.int i2), .val (.int i3), .val (.int i4), .val (.ref (n0 + a1)), .val (.ref (n0 + a3)), .val (.int (0 : Int32)), .val (.int v8), .val (.int v9), .val (.int v10), .val (.int v11), .val (.int v12), .val (.int v13), .val (.int x15), .val (.int x18), .unset, .unset, .unset, .unset, .unset, .unset, .unset, .unset]) rfl ?_
      exact k
    exact bt0_102 hw hC X16 e16 O16 N16 (by omega) (by omega) hf
theorem own_fin (x : Int32) (n : Nat) (h0 : 0 ≤ x.toInt) (h1 : x.toInt < n) : ∃ p : Fin n, x = p.1.toInt32 :=
  ⟨⟨x.toNatClampNeg, by simp only [Int32.toNatClampNeg]; omega⟩, (back32 (by rw [Int32.lt_iff_toInt_lt]; have : (0 : Int32).toInt = 0 := rfl; omega)).1.symm⟩
theorem own_modr (x n : Int32) (hn : 0 < n.toInt) : 0 ≤ ((x &&& (2147483647 : Int32)) % n).toInt ∧ ((x &&& (2147483647 : Int32)) % n).toInt < n.toInt := by
  have e1 := c_and x (2147483647 : Int32) (by decide)
  have e2 := (c_irem (x &&& (2147483647 : Int32)) n n.toInt rfl).1 e1.1
  rw [e2]
  exact ⟨Int.emod_nonneg _ (by omega), Int.emod_lt_of_pos _ hn⟩
theorem own_mm (x n : Int32) (hn : 0 < n.toInt) : ((((x &&& (2147483647 : Int32)) % n) &&& (2147483647 : Int32)) % n) = ((x &&& (2147483647 : Int32)) % n) := by
  obtain ⟨h1, h2⟩ := own_modr x n hn
  have e0 : ((2 ^ 31 : Nat) : Int) = 2147483648 := by decide
  have u := Int32.toInt_lt ((x &&& (2147483647 : Int32)) % n)
  have e1 : (((x &&& (2147483647 : Int32)) % n) &&& (2147483647 : Int32)).toInt = ((x &&& (2147483647 : Int32)) % n).toInt := by
    rw [c_mask _ 2147483647 31 (by decide) (by decide), e0]; omega
  have e2 : (((x &&& (2147483647 : Int32)) % n) &&& (2147483647 : Int32)) = ((x &&& (2147483647 : Int32)) % n) := Int32.toInt_inj.mp e1
  rw [e2]
  apply Int32.toInt_inj.mp
  rw [(c_irem _ n n.toInt rfl).1 h1]
  exact Int.emod_eq_of_lt h1 h2
theorem own_ex {α : Type} {o : Option (Int32 × α)} (h : o.map Prod.fst = some (1 : Int32)) : ∃ D', o = some ((1 : Int32), D') := by
  cases o with
  | none => cases h
  | some q => obtain ⟨x, D⟩ := q; exact ⟨D, by cases h; rfl⟩
def own_tail (D : Hp) (a b : Int32) (k : Int32 → Hp → Option (Int32 × Hp)) : Option (Int32 × Hp) := (f3 D 3 a b).bind fun q => (ck q.2 0 1).bind fun _ => (f4 q.2 0 a b).bind fun w => if q.1 = w.1 then k 1 w.2 else k 0 w.2
def own_step (D : Hp) (a b : Int32) : Option Hp := (f3 D 3 a b).bind fun q => (ck q.2 0 1).bind fun _ => (f4 q.2 0 a b).bind fun w => if q.1 = w.1 then some w.2 else none
def own_D7 : Hp := [(1, [.ref 1, .ref 2]), (0, [.int 0, .int 1, .int 2, .int 3]), (0, [.int 1, .int 1, .int 1, .int 1]), (0, [.int 0, .int 1, .int 2, .int 3])]
theorem own_go {D D' : Hp} {a b : Int32} {k : Int32 → Hp → Option (Int32 × Hp)} (h : own_step D a b = some D') : own_tail D a b k = k 1 D' := by
  unfold own_step at h
  obtain ⟨q, h1, h⟩ := own_bind h
  obtain ⟨u, h2, h⟩ := own_bind h
  obtain ⟨w, h3, h⟩ := own_bind h
  by_cases e : q.1 = w.1
  · rw [if_pos e] at h; cases h
    unfold own_tail
    rw [h1, Option.bind_some, h2, Option.bind_some, h3, Option.bind_some, if_pos e]
  · rw [if_neg e] at h; cases h
theorem own_e0 (i0 i1 i2 i3 i4 : Int32) : f0 [] i0 i1 i2 i3 i4 = own_tail own_D7 (i0 &&& (3 : Int32)) (((i0.toUInt32 >>> ((2 : Int32) &&& 31).toUInt32).toInt32) &&& (3 : Int32)) (fun ok D => b0_102 D i3 i4 0 3 ok (i1 &&& (3 : Int32)) (((i1.toUInt32 >>> ((2 : Int32) &&& 31).toUInt32).toInt32) &&& (3 : Int32)) (i2 &&& (3 : Int32)) (((i2.toUInt32 >>> ((2 : Int32) &&& 31).toUInt32).toInt32) &&& (3 : Int32))) := rfl
theorem own_e1 (D : Hp) (i3 i4 a b c d : Int32) : b0_102 D i3 i4 0 3 1 a b c d = own_tail D a b (fun ok D => b0_134 D i3 i4 0 3 ok c d) := rfl
theorem own_e2 (D : Hp) (i3 i4 a b : Int32) : b0_134 D i3 i4 0 3 1 a b = own_tail D a b (fun ok D => b0_166 D i3 i4 0 3 ok) := rfl
theorem own_and (a : Int32) : (a &&& (3 : Int32)) &&& (3 : Int32) = a &&& (3 : Int32) := by rw [Int32.and_assoc, show (3 : Int32) &&& 3 = 3 by decide]
theorem own_e3 (D : Hp) (i3 i4 : Int32) : b0_166 D (i3 &&& (3 : Int32)) (i4 &&& (3 : Int32)) 0 3 1 = b0_166 D i3 i4 0 3 1 := by simp only [b0_166, own_and]
def own_is : List Int32 := [0, 1, 2, 3]
def own_in (S : List Hp) (o : Option Hp) : Bool := match o with
  | some D => S.contains D
  | none => false
theorem own_in_e {S : List Hp} {o : Option Hp} (h : own_in S o = true) : ∃ D ∈ S, o = some D := by
  cases o with
  | none => cases h
  | some D => exact ⟨D, by simpa [own_in] using h, rfl⟩
def own_next (S : List Hp) : List Hp := (S.flatMap fun D => own_is.flatMap fun a => own_is.filterMap fun b => own_step D a b).eraseDups
def own_S1 : List Hp := own_next [own_D7]
def own_S2 : List Hp := own_next own_S1
def own_S3 : List Hp := own_next own_S2
set_option maxRecDepth 100000 in
theorem own_k1 : (own_is.all fun a => own_is.all fun b => own_in own_S1 (own_step own_D7 a b)) = true := by decide +kernel
set_option maxRecDepth 100000 in
theorem own_k2 : (own_S1.all fun D => own_is.all fun a => own_is.all fun b => own_in own_S2 (own_step D a b)) = true := by decide +kernel
set_option maxRecDepth 100000 in
theorem own_k3 : (own_S2.all fun D => own_is.all fun a => own_is.all fun b => own_in own_S3 (own_step D a b)) = true := by decide +kernel
set_option maxRecDepth 100000 in
theorem own_k4 : (own_S3.all fun D => own_is.all fun a => own_is.all fun b => decide ((b0_166 D a b 0 3 1).map Prod.fst = some (1 : Int32))) = true := by decide +kernel
theorem own_m (x : Int32) : x &&& (3 : Int32) ∈ own_is := by
  have e3 : (x &&& (3 : Int32)).toInt = x.toInt % 4 := c_mask x 3 2 (by decide) (by decide)
  obtain ⟨p, hp⟩ := own_fin (x &&& (3 : Int32)) 4 (by omega) (by omega)
  rw [hp]
  match p with
  | ⟨0, _⟩ => exact List.mem_of_getElem? (i := 0) rfl
  | ⟨1, _⟩ => exact List.mem_of_getElem? (i := 1) rfl
  | ⟨2, _⟩ => exact List.mem_of_getElem? (i := 2) rfl
  | ⟨3, _⟩ => exact List.mem_of_getElem? (i := 3) rfl
theorem own_all2 {P : Int32 → Int32 → Bool} (h : (own_is.all fun a => own_is.all fun b => P a b) = true) {a b : Int32} (ha : a ∈ own_is) (hb : b ∈ own_is) : P a b = true := List.all_eq_true.mp (List.all_eq_true.mp h a ha) b hb
theorem law_ok (i0 i1 i2 i3 i4 : Int32) : ∃ D', f0 [] i0 i1 i2 i3 i4 = some ((1 : Int32), D') := by
  obtain ⟨D1, m1, s1⟩ := own_in_e (own_all2 own_k1 (own_m i0) (own_m ((i0.toUInt32 >>> ((2 : Int32) &&& 31).toUInt32).toInt32)))
  obtain ⟨D2, m2, s2⟩ := own_in_e (own_all2 (List.all_eq_true.mp own_k2 D1 m1) (own_m i1) (own_m ((i1.toUInt32 >>> ((2 : Int32) &&& 31).toUInt32).toInt32)))
  obtain ⟨D3, m3, s3⟩ := own_in_e (own_all2 (List.all_eq_true.mp own_k3 D2 m2) (own_m i2) (own_m ((i2.toUInt32 >>> ((2 : Int32) &&& 31).toUInt32).toInt32)))
  have s4 := of_decide_eq_true (own_all2 (List.all_eq_true.mp own_k4 D3 m3) (own_m i3) (own_m i4))
  rw [own_e0, own_go s1]
  rw [own_e1, own_go s2]
  rw [own_e2, own_go s3]
  rw [← own_e3]
  exact own_ex s4
set_option maxRecDepth 65536 in
set_option maxHeartbeats 40000000 in
theorem comes_1 {Post : Tables → Env → Array Value → State → Outcome → State → Prop} (hpost : ∀ tb e args s v u, (limb_1_1.after args s (.returned v) u = true ∧ limb_1_2.after args s (.returned v) u = true ∧ True) → FrameEnd s (.returned v) u (Jvm.fieldLocs frame_1_writes args s ++ Jvm.arrayLocs frame_1_arrays args s ++ Jvm.staticLocs frame_1_statics s) 16 128 → Post tb e args s (.returned v) u) :
    ArmFor flags0 classFile x code maxLocals ret World_1 tables_1 room_1 Calls_1 rest_1 Pre_1 Post := by
  intro l hfl _ _ p e ha hc hk s m args below hf hA hF happ hP
  obtain ⟨hcalls, hrest, hpre⟩ := hP
  obtain ⟨-, -, -, hnamed, -, -, -, hat⟩ := (Spec.applies_iff hf).mp happ
  obtain ⟨hg, hn⟩ := and_e (Cond.before_iff.mp (show (Jvm.Cond.and given_1 narrow_1).before args s = true from hpre))
  obtain ⟨g0, hg⟩ := and_e hg
  obtain ⟨gg0, hg⟩ := and_e hg
  obtain ⟨gg1, hg⟩ := and_e hg
  obtain ⟨gg2, hg⟩ := and_e hg
  obtain ⟨gg3, hg⟩ := and_e hg
  have gg4 := hg
  obtain ⟨w0, w1, w2, w3, w4, rfl⟩ : ∃ w0 w1 w2 w3 w4 : Value, args = #[w0, w1, w2, w3, w4] := by
    have hs : args.size = 5 := by simpa [Cond.value, given_1] using g0
    obtain ⟨L⟩ := args
    match L, hs with
    | [w0, w1, w2, w3, w4], _ => exact ⟨w0, w1, w2, w3, w4, rfl⟩
  have hw := fun d (hd : d ∈ tables_1) => atoms_spec (ws := Jvm.Cond.code x code maxLocals ret :: tables_1) hat d (List.mem_cons_of_mem _ hd)
  obtain ⟨i0, ei0⟩ := is_v gg0
  obtain rfl : w0 = (.int i0) := Option.some.inj ei0
  obtain ⟨i1, ei1⟩ := is_v gg1
  obtain rfl : w1 = (.int i1) := Option.some.inj ei1
  obtain ⟨i2, ei2⟩ := is_v gg2
  obtain rfl : w2 = (.int i2) := Option.some.inj ei2
  obtain ⟨i3, ei3⟩ := is_v gg3
  obtain rfl : w3 = (.int i3) := Option.some.inj ei3
  obtain ⟨i4, ei4⟩ := is_v gg4
  obtain rfl : w4 = (.int i4) := Option.some.inj ei4
  obtain ⟨D', hlaw⟩ := law_ok i0 i1 i2 i3 i4
  obtain ⟨n, o, h1, h2, h3, _, L, rfl, ⟨rfl, N, -⟩, hq⟩ := ct0 (l := l) hw hlaw s.heap tables_1 (own_ow0 s.heap) p e ha hc hk s m _ below hf ((Spec.applies_iff_loose hf).mp happ).1 ⟨rfl, State.Warmed39.refl s, rfl⟩ trivial
  exact ⟨n, _, h1, h2, h3, hpost _ _ _ _ _ _ ⟨Cond.after_iff.mpr rfl, Cond.after_iff.mpr (eq_i res_at (Term.int_eval (1)) rfl), trivial⟩ ⟨hq.1, hq.2.1, (hq.2.2.sift fun y hy => Or.inr (N y hy)).mono (by decide) (by decide)⟩⟩
theorem main_1_1 : Claimed_1_1 := comes_1 fun _ _ _ _ _ _ h hF => ⟨h.1, hF⟩
theorem main_1_2 : Claimed_1_2 := comes_1 fun _ _ _ _ _ _ h hF => ⟨h.2.1, hF⟩
end Jvm.Pilot.@@N@@
namespace Jvm.Pilot.@@N@@
open Jvm Jvm.ClassFile Sem Op Lib Jvm.Free Jvm.Stand Jvm.Pilot.@@N@@.Jvm.D
/-! MADE BY PROGRAM (witnessworld.py) out of the Statement's table words and the real class files: 9 classes; the members and pool entries that the words name. The judged class is class 1, her method 2. -/
namespace start1
open Jvm.ClassFile
def u (s : String) : CpInfo := .utf8 (stringToUtf16 s)
/-- a pool by its gaps: so many unusable entries, then the entry; so many at the end -/
def gap : Nat → List CpInfo → List CpInfo
  | 0, r => r
  | n + 1, r => .unusable :: gap n r
def poolList (es : List (Nat × CpInfo)) (last : Nat) : List CpInfo := es.foldr (fun e r => gap e.1 (e.2 :: r)) (gap last [])
def pool (es : List (Nat × CpInfo)) (last : Nat) : Array CpInfo := ⟨poolList es last⟩
def fileOf (pool : Array CpInfo) (this : Nat) (attrs : Array Attribute := #[]) (ms : Array MethodInfo := #[]) (fl : Nat := 33) (sup : Nat := 0) (ifs : Array Nat := #[]) (fds : Array FieldInfo := #[]) : ClassFile where
  minorVersion := 0
  majorVersion := 65
  constantPool := pool
  accessFlags := fl
  thisClass := this
  superClass := sup
  interfaces := ifs
  fields := fds
  methods := ms
  attributes := attrs
def plain (name : String) (sup : Option ClassId) : Class where
  name := name
  kind := .ordinary
  loader := none
  accessFlags := 33
  super := sup
  interfaces := #[]
  cf := none
  fields := #[]
  methods := #[]
  instanceTypes := #[]
  staticTypes := #[]
  resolved := #[]
  callSites := []
  init := .initialized
  statics := none
  mirror := none

def pool0 : Array CpInfo := pool [(5, u "<init>"), (0, u "()V"), (1, .class_ 10), (1, u "java/lang/Object")] 113

def k0c0 : Code := { maxStack := 0, maxLocals := 1, code := object_method_1_code, exceptionTable := #[], attributes := #[] }
def k0m0 : Method := { name := "<init>", desc := "()V", sig := { parameters := [], returnType := none }, accessFlags := 1, code := some k0c0 }
/-- java/lang/Object -/
def k0 : Class := { plain "java/lang/Object" none with
  accessFlags := 33
  interfaces := #[]
  cf := some (fileOf pool0 8 #[] #[{ accessFlags := 1, nameIndex := 5, descriptorIndex := 6, attributes := #[] }] 33 0 #[] #[])
  fields := #[]
  methods := #[k0m0]
  instanceTypes := #[]
  staticTypes := #[]
  resolved := Array.replicate 124 none
  statics := none }

def pool1 : Array CpInfo := pool [(2, .class_ 4), (1, u "java/lang/Object"), (0, u "<init>"), (0, u "()V"), (0, .class_ 8), (0, u "com/example/sondage/sondage/graph/DisjointSets"), (0, .methodref 7 10), (0, .nameAndType 5 11), (0, u "(I)V"), (0, .methodref 13 14), (0, .class_ 15), (0, .nameAndType 16 17), (0, u "com/example/sondage/sondage/graph/DisjointSetsFindPinLaw"), (0, u "merge"), (0, u "([III)Z"), (0, .methodref 7 19), (0, .nameAndType 20 21), (0, u "union"), (0, u "(II)Z"), (0, .methodref 7 23), (0, .nameAndType 24 25), (0, u "find"), (0, u "(I)I"), (3, u "law"), (0, u "(IIIII)Z")] 4

def k1m0 : Method := { name := "<init>", desc := "()V", sig := { parameters := [], returnType := none }, accessFlags := 1, code := none }
def k1c1 : Code := { maxStack := 3, maxLocals := 5, code := method_2_code, exceptionTable := #[], attributes := #[] }
def k1m1 : Method := { name := "merge", desc := "([III)Z", sig := { parameters := [(.array .int), .int, .int], returnType := some .boolean }, accessFlags := 10, code := some k1c1 }
def k1c2 : Code := { maxStack := 4, maxLocals := 24, code := code, exceptionTable := #[], attributes := #[] }
def k1m2 : Method := { name := "law", desc := "(IIIII)Z", sig := { parameters := [.int, .int, .int, .int, .int], returnType := some .boolean }, accessFlags := 9, code := some k1c2 }
/-- com/example/sondage/sondage/graph/DisjointSetsFindPinLaw -/
def k1 : Class := { plain "com/example/sondage/sondage/graph/DisjointSetsFindPinLaw" (some 0) with
  accessFlags := 49
  interfaces := #[]
  cf := some (fileOf pool1 13 #[] #[{ accessFlags := 1, nameIndex := 5, descriptorIndex := 6, attributes := #[] }, { accessFlags := 10, nameIndex := 16, descriptorIndex := 17, attributes := #[] }, { accessFlags := 9, nameIndex := 29, descriptorIndex := 30, attributes := #[] }] 49 2 #[] #[])
  fields := #[]
  methods := #[k1m0, k1m1, k1m2]
  instanceTypes := #[]
  staticTypes := #[]
  resolved := Array.replicate 35 none
  statics := none }

def pool2 : Array CpInfo := pool [(1, .methodref 2 3), (0, .class_ 4), (0, .nameAndType 5 6), (0, u "java/lang/Object"), (0, u "<init>"), (0, u "()V"), (0, .fieldref 8 9), (0, .class_ 10), (0, .nameAndType 11 12), (0, u "com/example/sondage/sondage/graph/DisjointSets"), (0, u "parent"), (0, u "[I"), (0, .fieldref 8 14), (0, .nameAndType 15 12), (0, u "size"), (0, .methodref 8 17), (0, .nameAndType 18 19), (0, u "find"), (0, u "(I)I"), (0, u "(I)V"), (3, u "union"), (0, u "(II)Z")] 2

def k2c0 : Code := { maxStack := 3, maxLocals := 3, code := prog_28_method_1_code, exceptionTable := #[], attributes := #[] }
def k2m0 : Method := { name := "<init>", desc := "(I)V", sig := { parameters := [.int], returnType := none }, accessFlags := 1, code := some k2c0 }
def k2c1 : Code := { maxStack := 5, maxLocals := 3, code := prog_28_method_2_code, exceptionTable := #[], attributes := #[] }
def k2m1 : Method := { name := "find", desc := "(I)I", sig := { parameters := [.int], returnType := some .int }, accessFlags := 1, code := some k2c1 }
def k2c2 : Code := { maxStack := 5, maxLocals := 6, code := prog_28_method_3_code, exceptionTable := #[], attributes := #[] }
def k2m2 : Method := { name := "union", desc := "(II)Z", sig := { parameters := [.int, .int], returnType := some .boolean }, accessFlags := 1, code := some k2c2 }
/-- com/example/sondage/sondage/graph/DisjointSets -/
def k2 : Class := { plain "com/example/sondage/sondage/graph/DisjointSets" (some 0) with
  accessFlags := 49
  interfaces := #[]
  cf := some (fileOf pool2 8 #[] #[{ accessFlags := 1, nameIndex := 5, descriptorIndex := 20, attributes := #[] }, { accessFlags := 1, nameIndex := 18, descriptorIndex := 19, attributes := #[] }, { accessFlags := 1, nameIndex := 24, descriptorIndex := 25, attributes := #[] }] 49 2 #[] #[{ accessFlags := 18, nameIndex := 11, descriptorIndex := 12, attributes := #[] }, { accessFlags := 18, nameIndex := 15, descriptorIndex := 12, attributes := #[] }])
  fields := #[{ name := "parent", type := (.array .int), accessFlags := 18, slot := 0, constantValue := 0 }, { name := "size", type := (.array .int), accessFlags := 18, slot := 1, constantValue := 0 }]
  methods := #[k2m0, k2m1, k2m2]
  instanceTypes := #[(.array .int), (.array .int)]
  staticTypes := #[]
  resolved := Array.replicate 28 none
  statics := none }

def pool3 : Array CpInfo := pool [(1, u "java/lang/Cloneable"), (0, .class_ 1), (0, u "java/lang/Object"), (0, .class_ 3)] 3

/-- java/lang/Cloneable -/
def k3 : Class := { plain "java/lang/Cloneable" (some 0) with
  accessFlags := 1537
  interfaces := #[]
  cf := some (fileOf pool3 2 #[] #[] 1537 4 #[] #[])
  fields := #[]
  methods := #[]
  instanceTypes := #[]
  staticTypes := #[]
  resolved := Array.replicate 8 none
  statics := none }

def pool4 : Array CpInfo := pool [(1, u "java/io/Serializable"), (0, .class_ 1), (0, u "java/lang/Object"), (0, .class_ 3)] 3

/-- java/io/Serializable -/
def k4 : Class := { plain "java/io/Serializable" (some 0) with
  accessFlags := 1537
  interfaces := #[]
  cf := some (fileOf pool4 2 #[] #[] 1537 4 #[] #[])
  fields := #[]
  methods := #[]
  instanceTypes := #[]
  staticTypes := #[]
  resolved := Array.replicate 8 none
  statics := none }

/-- the primitive byte -/
def k5 : Class := { plain "byte" none with kind := .primitive 'B', accessFlags := 0x411 }
/-- [B -/
def k6 : Class := { plain "[B" (some 0) with kind := .array 5 .byte, interfaces := #[3, 4], accessFlags := 1041 }

/-- the primitive int -/
def k7 : Class := { plain "int" none with kind := .primitive 'I', accessFlags := 0x411 }
/-- [I -/
def k8 : Class := { plain "[I" (some 0) with kind := .array 7 .int, interfaces := #[3, 4], accessFlags := 1041 }

def heap : Heap := #[]
def classes : Array Class := #[k0, k1, k2, k3, k4, k5, k6, k7, k8]
def interned : List (Array UInt16 × Addr) := []
def slotsUsed : Nat := 0
def theMethod : MethodId := ⟨1, 2⟩
def args0 : Array Value := #[.int 5, .int 7, .int 9, .int 2, .int 3]
def aboutOver (below : List Frame) : State where
  vm := { classes := classes, interned := interned.toArray }
  heap := heap
  slotsUsed := slotsUsed
  threads := #[{ frames := .invoking theMethod args0 :: below }]
def below0 : List Frame := [.native { method := ⟨0, 0⟩, args := #[] }]
def about1 : State := aboutOver below0
def p0 : Program := .bare "" "" ""
def e0 : Env := launch0.env 0 0 0
theorem w_frames : about1.frames = Frame.invoking theMethod args0 :: below0 := rfl
set_option maxRecDepth 65536 in
theorem w_args : argsFit about1.vm theMethod args0 = true := by decide +kernel
set_option maxRecDepth 65536 in
theorem w_heap : heapFits about1 = true := by decide +kernel
set_option maxRecDepth 65536 in
theorem w_runnable : about1.curStatus? = some .runnable := by decide +kernel
set_option maxRecDepth 65536 in
theorem w_alone : about1.alone = true := by decide +kernel
set_option maxRecDepth 65536 in
theorem w_named : about1.methodNamed? x = some theMethod := by decide +kernel
set_option maxRecDepth 65536 in
theorem w_hears : about1.hears theMethod below0 = true := by decide +kernel
set_option maxRecDepth 65536 in
theorem w_ripe : about1.ripe theMethod args0 below0 = true := by decide +kernel
theorem w_running : about1.status = .running := rfl
set_option maxRecDepth 65536 in
theorem w_room : about1.hasRoom e0.platform room_1 = true :=
  launch0.hasRoom_least _ room_1 (by decide +kernel) (by decide +kernel) (by decide +kernel) (by decide +kernel) (by decide +kernel) (by decide +kernel)
theorem allAtoms_all (ts : List Jvm.Cond) (a : Array Jvm.Value) (st : Jvm.State) : (allAtoms ts).before a st = ts.all (fun c => c.before a st) := by
  induction ts with
  | nil => rfl
  | cons c t ih =>
    show (Jvm.Cond.and c (allAtoms t)).before a st = _
    rw [Jvm.Cond.before_and, ih, List.all_cons]
def words1 : List Jvm.Cond := Jvm.Cond.code x code maxLocals ret :: tables_1
/-- a 'code' word, met by the world's own term for the bytes: nothing is compared byte by byte -/
theorem code_word {y : MethodName} {bytes : ByteArray} {mx : Nat} {rt : Option FieldType} {a : Array Value} {s : State} {m : MethodId} {meth : Method} {c : Code} (h1 : s.methodNamed? y = some m) (h2 : s.vm.method? m = some meth) (h3 : meth.code = some c) (h4 : c.code = bytes)
    (h5 : (c.maxLocals == mx && c.exceptionTable.isEmpty && decide (c.maxStack ≤ mostOperands) && decide (meth.sig.returnType = rt) && !meth.locks && decide (parseMethodDescriptor y.desc = some meth.sig)) = true) : (Jvm.Cond.code y bytes mx rt).before a s = true := by
  simp only [Bool.and_eq_true, beq_iff_eq, Bool.not_eq_true', decide_eq_true_eq] at h5
  obtain ⟨⟨⟨⟨⟨g1, g2⟩, g3⟩, g4⟩, g5⟩, g6⟩ := h5
  simp [Cond.before, Cond.holds, Cond.value, h1, h2, h3, h4, g1, g2, g3, g4, g5, g6]
def isCode : Jvm.Cond → Bool
  | .code _ _ _ _ => true
  | _ => false
theorem all_split {L : List Jvm.Cond} {P : Jvm.Cond → Bool} (h1 : L.all (fun c => isCode c || P c) = true) (h2 : ∀ c ∈ L.filter isCode, P c = true) : L.all P = true := by
  refine List.all_eq_true.mpr fun c hc => ?_
  have h := List.all_eq_true.mp h1 c hc
  rcases Bool.eq_false_or_eq_true (isCode c) with hi | hi
  · exact h2 c (List.mem_filter.mpr ⟨hc, hi⟩)
  · simpa [hi] using h
set_option maxRecDepth 65536 in
theorem w_c0 : (Jvm.Cond.code x code maxLocals ret).before args0 about1 = true := code_word (m := ⟨1, 2⟩) (meth := k1m2) (c := k1c2) (by decide +kernel) rfl rfl rfl (by decide +kernel)
set_option maxRecDepth 65536 in
theorem w_c1 : (Jvm.Cond.code ({ cls := "com/example/sondage/sondage/graph/DisjointSets", name := "<init>", desc := "(I)V" } : Jvm.MethodName) prog_28_method_1_code (3 : Nat) (Option.none : Option Jvm.ClassFile.FieldType)).before args0 about1 = true := code_word (m := ⟨2, 0⟩) (meth := k2m0) (c := k2c0) (by decide +kernel) rfl rfl rfl (by decide +kernel)
set_option maxRecDepth 65536 in
theorem w_c2 : (Jvm.Cond.code ({ cls := "java/lang/Object", name := "<init>", desc := "()V" } : Jvm.MethodName) object_method_1_code (1 : Nat) (Option.none : Option Jvm.ClassFile.FieldType)).before args0 about1 = true := code_word (m := ⟨0, 0⟩) (meth := k0m0) (c := k0c0) (by decide +kernel) rfl rfl rfl (by decide +kernel)
set_option maxRecDepth 65536 in
theorem w_c3 : (Jvm.Cond.code ({ cls := "com/example/sondage/sondage/graph/DisjointSetsFindPinLaw", name := "merge", desc := "([III)Z" } : Jvm.MethodName) method_2_code (5 : Nat) (Option.some Jvm.ClassFile.FieldType.boolean)).before args0 about1 = true := code_word (m := ⟨1, 1⟩) (meth := k1m1) (c := k1c1) (by decide +kernel) rfl rfl rfl (by decide +kernel)
set_option maxRecDepth 65536 in
theorem w_c4 : (Jvm.Cond.code ({ cls := "com/example/sondage/sondage/graph/DisjointSets", name := "union", desc := "(II)Z" } : Jvm.MethodName) prog_28_method_3_code (6 : Nat) (Option.some Jvm.ClassFile.FieldType.boolean)).before args0 about1 = true := code_word (m := ⟨2, 2⟩) (meth := k2m2) (c := k2c2) (by decide +kernel) rfl rfl rfl (by decide +kernel)
set_option maxRecDepth 65536 in
theorem w_c5 : (Jvm.Cond.code ({ cls := "com/example/sondage/sondage/graph/DisjointSets", name := "find", desc := "(I)I" } : Jvm.MethodName) prog_28_method_2_code (3 : Nat) (Option.some Jvm.ClassFile.FieldType.int)).before args0 about1 = true := code_word (m := ⟨2, 1⟩) (meth := k2m1) (c := k2c1) (by decide +kernel) rfl rfl rfl (by decide +kernel)
def codes1 : List Jvm.Cond := [Jvm.Cond.code x code maxLocals ret, Jvm.Cond.code ({ cls := "com/example/sondage/sondage/graph/DisjointSets", name := "<init>", desc := "(I)V" } : Jvm.MethodName) prog_28_method_1_code (3 : Nat) (Option.none : Option Jvm.ClassFile.FieldType), Jvm.Cond.code ({ cls := "java/lang/Object", name := "<init>", desc := "()V" } : Jvm.MethodName) object_method_1_code (1 : Nat) (Option.none : Option Jvm.ClassFile.FieldType), Jvm.Cond.code ({ cls := "com/example/sondage/sondage/graph/DisjointSetsFindPinLaw", name := "merge", desc := "([III)Z" } : Jvm.MethodName) method_2_code (5 : Nat) (Option.some Jvm.ClassFile.FieldType.boolean), Jvm.Cond.code ({ cls := "com/example/sondage/sondage/graph/DisjointSets", name := "union", desc := "(II)Z" } : Jvm.MethodName) prog_28_method_3_code (6 : Nat) (Option.some Jvm.ClassFile.FieldType.boolean), Jvm.Cond.code ({ cls := "com/example/sondage/sondage/graph/DisjointSets", name := "find", desc := "(I)I" } : Jvm.MethodName) prog_28_method_2_code (3 : Nat) (Option.some Jvm.ClassFile.FieldType.int)]
set_option maxRecDepth 65536 in
theorem codes_eq : words1.filter isCode = codes1 := rfl
theorem w_codes : ∀ c ∈ words1.filter isCode, c.before args0 about1 = true := by
  rw [codes_eq]
  intro c hc
  simp only [codes1, List.mem_cons, List.not_mem_nil, or_false] at hc
  rcases hc with rfl | rfl | rfl | rfl | rfl | rfl
  · exact w_c0
  · exact w_c1
  · exact w_c2
  · exact w_c3
  · exact w_c4
  · exact w_c5
set_option maxRecDepth 65536 in
theorem w_t1 : (words1.take 24).all (fun c => isCode c || c.before args0 about1) = true := by decide +kernel
set_option maxRecDepth 65536 in
theorem w_t2 : (words1.drop 24).all (fun c => isCode c || c.before args0 about1) = true := by decide +kernel
theorem w_tables : (allAtoms (Jvm.Cond.code x code maxLocals ret :: tables_1)).before args0 about1 = true := by
  rw [allAtoms_all]
  show words1.all (fun c => c.before args0 about1) = true
  refine all_split ?_ w_codes
  rw [← List.take_append_drop 24 words1, List.all_append, w_t1, w_t2]
  rfl
set_option maxRecDepth 65536 in
theorem w_case : (Jvm.Cond.and given_1 narrow_1).before args0 about1 = true := by decide +kernel
theorem w_applies : (headSpec (Jvm.Cond.code x code maxLocals ret :: tables_1) room_1).applies x e0.platform about1 = true :=
  (Spec.applies_iff w_frames).mpr ⟨w_running, w_runnable, w_alone, w_named, w_hears, w_ripe, w_room, w_tables⟩
theorem atStart : AtStart classFile x code maxLocals ret World_1 tables_1 room_1 Calls_1 rest_1 Pre_1 launch0 p0 e0 about1 theMethod args0 below0 :=
  ⟨lists_1, trivial, launch0.admits_env _ _ _, launch0.least_env, fairChoices_fair.cas, fairChoices_fair.clock, w_frames, w_args, w_heap, w_applies, trivial, trivial, w_case⟩
end start1
theorem witness_1 : WitnessClaimed_1 := ⟨start1.p0, start1.e0, start1.about1, start1.theMethod, start1.args0, start1.below0, start1.atStart⟩
end Jvm.Pilot.@@N@@
