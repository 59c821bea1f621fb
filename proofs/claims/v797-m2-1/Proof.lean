import JvmDerived
import JvmDerived.Pilot.@@N@@Statement
import JvmDerived.Pilot.@@N@@Code
set_option linter.unusedVariables false
set_option linter.unusedSimpArgs false

namespace Jvm.Pilot.@@N@@
open Jvm Jvm.ClassFile Sem Op Lib Jvm.Free Jvm.Stand Jvm.LawKit Jvm.RoadKit Bundle Jvm.Pilot.@@N@@.Jvm.D
/-! 1. the goal of a walk, and its steps -/
section OwnGoal
variable {p : Program} {l : Launch} {e : Env} {R : Room} {s : State} {m : MethodId} {args : Array Value} {below : List Frame} {meth : Method} {c : Code} {T : State} {locs : List Loc} {cells slots : Nat}
/-- from the state S the body returns, P holds of what it leaves, and the frame is kept -/
def Gl (p : Program) (e : Env) (below : List Frame) (s : State) (kc ks : Nat) (P : Option Value → Heap → List Loc → Prop) (S : State) : Prop :=
  ∃ t o, Steps p.tables e below S t ∧ t.status = .running ∧ Ended t below o ∧ ∃ v L, o = .returned v ∧ P v t.heap L ∧ FrameEnd s o t L kc ks
variable {kc ks : Nat} {P : Option Value → Heap → List Loc → Prop}
theorem Gl.on {A B : State} (h : ∀ t, Steps p.tables e below B t → Steps p.tables e below A t) (k : Gl p e below s kc ks P B) : Gl p e below s kc ks P A := by
  obtain ⟨t, o, h1, h2⟩ := k
  exact ⟨t, o, h t h1, h2⟩
theorem own_to {tb : Tables} {A B t : State} (q : A = B) (k : Steps tb e below B t) : Steps tb e below A t := q ▸ k
theorem Gl.out (X : Stand p l e R s m args below meth c T locs cells slots) (hx : p.tables.exec = Jvm.exec) (hlk : meth.locks = false) {pc : Nat} {Ls : Array Slot} {w : Value} {t : FieldType} {i : Instr} {rest : List Value} (hret : meth.sig.returnType = some t) (hn : narrow t w = w)
    (hi : (i = .ireturn ∧ (t = .int ∨ t = .boolean ∨ t = .byte ∨ t = .char ∨ t = .short) ∧ ∃ z, w = .int z) ∨ (i = .lreturn ∧ t = .long ∧ ∃ z, w = .long z) ∨ (i = .dreturn ∧ t = .double ∧ ∃ z, w = .double z) ∨ (i = .freturn ∧ t = .float ∧ ∃ z, w = .float z) ∨ (i = .areturn ∧ t.isReference = true ∧ w.isRef = true))
    (hd : decode c.code pc = .ok (i, 1)) (hP : P (some w) T.heap locs) (hc : cells ≤ kc) (hs : slots ≤ ks) : Gl p e below s kc ks P (T.setTop (mkF m pc Ls (w :: rest))) := by
  obtain ⟨fs, hr, hrun, hended, hW, hsame⟩ := X.leave (v := some w) (fun h => by rw [hret] at h; cases h) hlk
  exact ⟨_, _, retOut X hx hret hn hi hd hr, hrun, hended, _, _, rfl, hP, ⟨_, rfl⟩, hW, hsame.mono hc hs⟩
theorem Gl.outI (X : Stand p l e R s m args below meth c T locs cells slots) (hx : p.tables.exec = Jvm.exec) (hlk : meth.locks = false) {pc : Nat} {Ls : Array Slot} {z : Int32} {rest : List Value} (hret : meth.sig.returnType = some .int)
    (hd : decode c.code pc = .ok (.ireturn, 1)) (hP : P (some (.int z)) T.heap locs) (hc : cells ≤ kc) (hs : slots ≤ ks) : Gl p e below s kc ks P (T.setTop (mkF m pc Ls (.int z :: rest))) :=
  Gl.out X hx hlk hret rfl (Or.inl ⟨rfl, Or.inl rfl, z, rfl⟩) hd hP hc hs
theorem Gl.outJ (X : Stand p l e R s m args below meth c T locs cells slots) (hx : p.tables.exec = Jvm.exec) (hlk : meth.locks = false) {pc : Nat} {Ls : Array Slot} {z : Int64} {rest : List Value} (hret : meth.sig.returnType = some .long)
    (hd : decode c.code pc = .ok (.lreturn, 1)) (hP : P (some (.long z)) T.heap locs) (hc : cells ≤ kc) (hs : slots ≤ ks) : Gl p e below s kc ks P (T.setTop (mkF m pc Ls (.long z :: rest))) :=
  Gl.out X hx hlk hret rfl (Or.inr (Or.inl ⟨rfl, rfl, z, rfl⟩)) hd hP hc hs
theorem Gl.outR (X : Stand p l e R s m args below meth c T locs cells slots) (hx : p.tables.exec = Jvm.exec) (hlk : meth.locks = false) {pc : Nat} {Ls : Array Slot} {a : Addr} {t : FieldType} {rest : List Value} (hret : meth.sig.returnType = some t) (ht : t.isReference = true)
    (hd : decode c.code pc = .ok (.areturn, 1)) (hP : P (some (.ref a)) T.heap locs) (hc : cells ≤ kc) (hs : slots ≤ ks) : Gl p e below s kc ks P (T.setTop (mkF m pc Ls (.ref a :: rest))) :=
  Gl.out X hx hlk hret (by cases t <;> first | rfl | cases ht) (Or.inr (Or.inr (Or.inr (Or.inr ⟨rfl, ht, rfl⟩)))) hd hP hc hs
theorem Gl.outN (X : Stand p l e R s m args below meth c T locs cells slots) (hx : p.tables.exec = Jvm.exec) (hlk : meth.locks = false) {pc : Nat} {Ls : Array Slot} {z : Int32} {t : FieldType} {rest : List Value} (hret : meth.sig.returnType = some t) (ht : t = .boolean ∨ t = .byte ∨ t = .char ∨ t = .short)
    (hd : decode c.code pc = .ok (.ireturn, 1)) (hP : P (some (.int (nar t z))) T.heap locs) (hc : cells ≤ kc) (hs : slots ≤ ks) : Gl p e below s kc ks P (T.setTop (mkF m pc Ls (.int z :: rest))) := by
  obtain ⟨fs, hr, hrun, hended, hW, hsame⟩ := X.leave (v := some (.int (nar t z))) (fun h => by rw [hret] at h; cases h) hlk
  exact ⟨_, _, retN X hx hret ht hd hr, hrun, hended, _, _, rfl, hP, ⟨_, rfl⟩, hW, hsame.mono hc hs⟩
theorem Gl.outV (X : Stand p l e R s m args below meth c T locs cells slots) (hx : p.tables.exec = Jvm.exec) (hlk : meth.locks = false) {pc : Nat} {Ls : Array Slot} (hret : meth.sig.returnType = none)
    (hd : decode c.code pc = .ok (.return_, 1)) (hP : P none T.heap locs) (hc : cells ≤ kc) (hs : slots ≤ ks) : Gl p e below s kc ks P (T.setTop (mkF m pc Ls [])) := by
  obtain ⟨fs, hr, hrun, hended, hW, hsame⟩ := X.leave (v := none) (fun _ => rfl) hlk
  exact ⟨_, _, X.returnOut hx hret hd hr, hrun, hended, _, _, rfl, hP, ⟨_, rfl⟩, hW, hsame.mono hc hs⟩
end OwnGoal
/-- two slots: both empty, or a long -/
def Two (a b : Slot) : Prop := (a = .unset ∧ b = .unset) ∨ ∃ z : Int64, a = .val (.long z) ∧ b = .second
theorem own_inj {α β : Type} {a b : α} {c d : β} (h : some (a, c) = some (b, d)) : a = b ∧ c = d := by cases h; exact ⟨rfl, rfl⟩
theorem own_inj1 {α : Type} {a b : α} (h : some a = some b) : a = b := by cases h; rfl
def own_let {α β : Type} (a : α) (f : α → β) : β := f a
theorem own_letE {α β : Type} {a : α} {f : α → β} {b : β} (h : own_let a f = b) : ∃ x, a = x ∧ f x = b := ⟨a, rfl, h⟩
theorem own_bind {α β : Type} {o : Option α} {f : α → Option β} {b : β} (h : o.bind f = some b) : ∃ x, o = some x ∧ f x = some b := by
  cases o with
  | none => cases h
  | some x => exact ⟨x, rfl, h⟩
/-! 2. what the law has made: a list of objects, each with its kind and its values; a reference is a place in that list -/
abbrev Hp := List (Nat × List Value)
abbrev Kt := Nat → FieldType × List (String × String)
def sh (n0 : Nat) : Value → Value
  | .ref k => .ref (n0 + k)
  | v => v
def gV (D : Hp) (a t i : Nat) : Option Value := (D[a]?).bind fun ob => if ob.1 = t then ob.2[i]? else none
def asI : Value → Option Int32
  | .int x => some x
  | _ => none
def asJ : Value → Option Int64
  | .long x => some x
  | _ => none
def asR : Value → Option Nat
  | .ref x => some x
  | _ => none
def gI (D : Hp) (a t i : Nat) : Option Int32 := (gV D a t i).bind asI
def gJ (D : Hp) (a t i : Nat) : Option Int64 := (gV D a t i).bind asJ
def gR (D : Hp) (a t i : Nat) : Option Nat := (gV D a t i).bind asR
def ck (D : Hp) (a t : Nat) : Option Nat := (D[a]?).bind fun ob => if ob.1 = t then some t else none
def pV (D : Hp) (a t i : Nat) (v : Value) : Option Hp := (D[a]?).bind fun ob => if ob.1 = t then (if i < ob.2.length then some (D.set a (t, ob.2.set i v)) else none) else none
def rV (D : Hp) (a t : Nat) (j : Int32) : Option Value := (D[a]?).bind fun ob => if ob.1 = t then (if j < 0 then none else ob.2[j.toNatClampNeg]?) else none
def rI (D : Hp) (a t : Nat) (j : Int32) : Option Int32 := (rV D a t j).bind asI
def rJ (D : Hp) (a t : Nat) (j : Int32) : Option Int64 := (rV D a t j).bind asJ
def wV (D : Hp) (a t : Nat) (j : Int32) (v : Value) : Option Hp := (D[a]?).bind fun ob => if ob.1 = t then (if j < 0 then none else if j.toNatClampNeg < ob.2.length then some (D.set a (t, ob.2.set j.toNatClampNeg v)) else none) else none
def lA (D : Hp) (a t : Nat) : Option Int32 := (D[a]?).bind fun ob => if ob.1 = t then some ob.2.length.toInt32 else none
def nA (D : Hp) (t : Nat) (n : Int32) (cap : Nat) (z : Value) : Option Hp := if n < 0 then none else if n.toNatClampNeg ≤ cap then some (D ++ [(t, List.replicate n.toNatClampNeg z)]) else none
def cA' (D : Hp) (a t cap : Nat) : Option Hp := (D[a]?).bind fun ob => if ob.1 = t then (if ob.2.length ≤ cap then some (D ++ [(t, ob.2)]) else none) else none
def Ob1 (K : Kt) (Z : State) (h : Heap) (n0 a t : Nat) (vs : List Value) : Prop :=
  (∀ ty, (K t).1 = .array ty → Exa Z h a ("[" ++ ty.toString) ∧ ∃ c : Cell, Arr Z h a c ty ∧ c.slots = (vs.map (sh n0)).toArray ∧ vs.length < 2 ^ 31 ∧ ∀ v ∈ vs, fits ty v = true) ∧
  (∀ C, (K t).1 = .object C → Exa Z h a C ∧ ∀ (i : Nat) (f d : String), (K t).2[i]? = some (f, d) → ∃ v : Value, vs[i]? = some v ∧ Fld Z h a C f d (sh n0 v))
def Ow (K : Kt) (Z : State) (h : Heap) (n0 : Nat) (D : Hp) : Prop := h.size = n0 + D.length ∧ ∀ (k t : Nat) (vs : List Value), D[k]? = some (t, vs) → Ob1 K Z h n0 (n0 + k) t vs
def Lay (K : Kt) (Z : State) (a0 : Array Value) : Prop := ∀ t C, (K t).1 = .object C → (∀ q ∈ (K t).2, Laid Z a0 C C q.1 q.2 ∧ ∃ ty, parseFieldDescriptor q.2 = some ty) ∧ ((K t).2.map Prod.fst).Nodup
section OwnHeap
variable {K : Kt} {Z : State} {h h' : Heap} {n0 : Nat} {D D' : Hp} {a t i : Nat} {v : Value} {j : Int32} {C f d : String} {ty : FieldType}
theorem gV_e (hg : gV D a t i = some v) : ∃ vs, D[a]? = some (t, vs) ∧ vs[i]? = some v := by
  obtain ⟨⟨t', vs⟩, h1, h2⟩ := own_bind hg
  by_cases q : t' = t
  · subst q; rw [if_pos rfl] at h2; exact ⟨vs, h1, h2⟩
  · rw [if_neg q] at h2; cases h2
theorem gI_e {x : Int32} (hg : gI D a t i = some x) : gV D a t i = some (.int x) := by
  obtain ⟨w, h1, h2⟩ := own_bind hg
  cases w <;> cases h2; exact h1
theorem gJ_e {x : Int64} (hg : gJ D a t i = some x) : gV D a t i = some (.long x) := by
  obtain ⟨w, h1, h2⟩ := own_bind hg
  cases w <;> cases h2; exact h1
theorem gR_e {x : Nat} (hg : gR D a t i = some x) : gV D a t i = some (.ref x) := by
  obtain ⟨w, h1, h2⟩ := own_bind hg
  cases w <;> cases h2; exact h1
theorem ck_e {q : Nat} (hg : ck D a t = some q) : ∃ vs, D[a]? = some (t, vs) := by
  obtain ⟨⟨t', vs⟩, h1, h2⟩ := own_bind hg
  by_cases q : t' = t
  · subst q; exact ⟨vs, h1⟩
  · rw [if_neg q] at h2; cases h2
theorem rV_e (hg : rV D a t j = some v) : ∃ vs, D[a]? = some (t, vs) ∧ ¬ j < 0 ∧ vs[j.toNatClampNeg]? = some v := by
  obtain ⟨⟨t', vs⟩, h1, h2⟩ := own_bind hg
  by_cases q : t' = t
  · subst q; rw [if_pos rfl] at h2
    by_cases r : j < 0
    · rw [if_pos r] at h2; cases h2
    · rw [if_neg r] at h2; exact ⟨vs, h1, r, h2⟩
  · rw [if_neg q] at h2; cases h2
theorem rI_e {x : Int32} (hg : rI D a t j = some x) : rV D a t j = some (.int x) := by
  obtain ⟨w, h1, h2⟩ := own_bind hg
  cases w <;> cases h2; exact h1
theorem rJ_e {x : Int64} (hg : rJ D a t j = some x) : rV D a t j = some (.long x) := by
  obtain ⟨w, h1, h2⟩ := own_bind hg
  cases w <;> cases h2; exact h1
theorem wV_e (hg : wV D a t j v = some D') : ∃ vs, D[a]? = some (t, vs) ∧ ¬ j < 0 ∧ j.toNatClampNeg < vs.length ∧ D' = D.set a (t, vs.set j.toNatClampNeg v) := by
  obtain ⟨⟨t', vs⟩, h1, h2⟩ := own_bind hg
  by_cases q : t' = t
  · subst q; rw [if_pos rfl] at h2
    by_cases r : j < 0
    · rw [if_pos r] at h2; cases h2
    · rw [if_neg r] at h2
      by_cases u : j.toNatClampNeg < vs.length
      · rw [if_pos u] at h2; cases h2; exact ⟨vs, h1, r, u, rfl⟩
      · rw [if_neg u] at h2; cases h2
  · rw [if_neg q] at h2; cases h2
theorem pV_e (hg : pV D a t i v = some D') : ∃ vs, D[a]? = some (t, vs) ∧ i < vs.length ∧ D' = D.set a (t, vs.set i v) := by
  obtain ⟨⟨t', vs⟩, h1, h2⟩ := own_bind hg
  by_cases q : t' = t
  · subst q; rw [if_pos rfl] at h2
    by_cases u : i < vs.length
    · rw [if_pos u] at h2; cases h2; exact ⟨vs, h1, u, rfl⟩
    · rw [if_neg u] at h2; cases h2
  · rw [if_neg q] at h2; cases h2
theorem cA_e {cap : Nat} (hg : cA' D a t cap = some D') : ∃ vs, D[a]? = some (t, vs) ∧ vs.length ≤ cap ∧ D' = D ++ [(t, vs)] := by
  obtain ⟨⟨t', vs⟩, h1, h2⟩ := own_bind hg
  by_cases q : t' = t
  · subst q; rw [if_pos rfl] at h2
    by_cases u : vs.length ≤ cap
    · rw [if_pos u] at h2; cases h2; exact ⟨vs, h1, u, rfl⟩
    · rw [if_neg u] at h2; cases h2
  · rw [if_neg q] at h2; cases h2
theorem lA_e {x : Int32} (hg : lA D a t = some x) : ∃ vs, D[a]? = some (t, vs) ∧ x = vs.length.toInt32 := by
  obtain ⟨⟨t', vs⟩, h1, h2⟩ := own_bind hg
  by_cases q : t' = t
  · subst q; rw [if_pos rfl] at h2; cases h2; exact ⟨vs, h1, rfl⟩
  · rw [if_neg q] at h2; cases h2
theorem Ow.fld (O : Ow K Z h n0 D) (hg : gV D a t i = some v) (hK : (K t).1 = .object C) (hf : (K t).2[i]? = some (f, d)) : Fld Z h (n0 + a) C f d (sh n0 v) := by
  obtain ⟨vs, h1, h2⟩ := gV_e hg
  obtain ⟨w, h3, h4⟩ := ((O.2 a t vs h1).2 C hK).2 i f d hf
  cases h2.symm.trans h3; exact h4
theorem Ow.fld0 (O : Ow K Z h n0 D) (hg : pV D a t i v = some D') (hK : (K t).1 = .object C) (hf : (K t).2[i]? = some (f, d)) : ∃ w, Fld Z h (n0 + a) C f d w := by
  obtain ⟨vs, h1, h2, -⟩ := pV_e hg
  obtain ⟨w, h3, h4⟩ := ((O.2 a t vs h1).2 C hK).2 i f d hf
  exact ⟨_, h4⟩
theorem Ow.exa (O : Ow K Z h n0 D) {vs : List Value} (hg : D[a]? = some (t, vs)) (hK : (K t).1 = .object C) : Exa Z h (n0 + a) C := ((O.2 a t vs hg).2 C hK).1
theorem Ow.exaC (O : Ow K Z h n0 D) {q : Nat} (hg : ck D a t = some q) (hK : (K t).1 = .object C) : Exa Z h (n0 + a) C := by
  obtain ⟨vs, h1⟩ := ck_e hg; exact O.exa h1 hK
theorem Ow.exaP (O : Ow K Z h n0 D) (hg : pV D a t i v = some D') (hK : (K t).1 = .object C) : Exa Z h (n0 + a) C := by
  obtain ⟨vs, h1, -⟩ := pV_e hg; exact O.exa h1 hK
theorem sh_len (vs : List Value) : ((vs.map (sh n0)).toArray).size = vs.length := by simp
/-- the array at a, its cell, that the place j lies in it and what it holds -/
theorem Ow.arrR (O : Ow K Z h n0 D) (hg : rV D a t j = some v) (hK : (K t).1 = .array ty) : ∃ c : Cell, Arr Z h (n0 + a) c ty ∧ ¬ (j < 0 ∨ c.slots.size ≤ j.toNatClampNeg) ∧ c.slots[j.toNatClampNeg]? = some (sh n0 v) := by
  obtain ⟨vs, h1, h2, h3⟩ := rV_e hg
  obtain ⟨-, c, A, hs, -, -⟩ := (O.2 a t vs h1).1 ty hK
  have hlt := (List.getElem?_eq_some_iff.mp h3).1
  refine ⟨c, A, ?_, ?_⟩
  · rw [hs, sh_len]; intro q; rcases q with q | q
    · exact h2 q
    · omega
  · rw [hs]; simp [h3]
theorem Ow.arrL (O : Ow K Z h n0 D) {x : Int32} (hg : lA D a t = some x) (hK : (K t).1 = .array ty) : ∃ c : Cell, Arr Z h (n0 + a) c ty ∧ c.slots.size.toInt32 = x := by
  obtain ⟨vs, h1, h2⟩ := lA_e hg
  obtain ⟨-, c, A, hs, -, -⟩ := (O.2 a t vs h1).1 ty hK
  exact ⟨c, A, by rw [hs, sh_len, h2]⟩
theorem Ow.arrW (O : Ow K Z h n0 D) (hg : wV D a t j v = some D') (hK : (K t).1 = .array ty) : ∃ c : Cell, Arr Z h (n0 + a) c ty ∧ ¬ (j < 0 ∨ c.slots.size ≤ j.toNatClampNeg) := by
  obtain ⟨vs, h1, h2, h3, -⟩ := wV_e hg
  obtain ⟨-, c, A, hs, -, -⟩ := (O.2 a t vs h1).1 ty hK
  refine ⟨c, A, ?_⟩
  rw [hs, sh_len]; intro q; rcases q with q | q
  · exact h2 q
  · omega
theorem own_get_set {k : Nat} {ob ob' : Nat × List Value} (hk : (D.set a ob)[k]? = some ob') : (k = a ∧ ob' = ob ∧ a < D.length) ∨ (k ≠ a ∧ D[k]? = some ob') := by
  by_cases q : k = a
  · subst q
    rw [List.getElem?_set] at hk
    simp only [if_true] at hk
    by_cases r : k < D.length
    · rw [if_pos r] at hk; cases hk; exact Or.inl ⟨rfl, rfl, r⟩
    · rw [if_neg r] at hk; cases hk
  · rw [List.getElem?_set_ne (Ne.symm q)] at hk; exact Or.inr ⟨q, hk⟩
theorem Ob1.other {x y k : Nat} {vs : List Value} {w : Value} {sl : Nat} (B : Ob1 K Z h n0 x k vs) (W : Wr h h' y sl w) (hne : x ≠ y) : Ob1 K Z h' n0 x k vs := by
  refine ⟨fun ty hK => ?_, fun C hK => ?_⟩
  · obtain ⟨E, c, A, r⟩ := B.1 ty hK
    exact ⟨E.wr W, c, A.other W hne, r⟩
  · obtain ⟨E, F⟩ := B.2 C hK
    refine ⟨E.wr W, fun i f d hi => ?_⟩
    obtain ⟨v, h1, h2⟩ := F i f d hi
    exact ⟨v, h1, h2.other W (Or.inl hne)⟩
theorem Ow.st (O : Ow K Z h n0 D) (hg : wV D a t j v = some D') (hK : (K t).1 = .array ty) (hfit : fits ty v = true) (W : Wr h h' (n0 + a) j.toNatClampNeg (sh n0 v)) : Ow K Z h' n0 D' := by
  obtain ⟨vs, h1, h2, h3, rfl⟩ := wV_e hg
  refine ⟨by rw [W.size, O.1, List.length_set], fun k t' vs' hk => ?_⟩
  rcases own_get_set hk with ⟨rfl, e, -⟩ | ⟨hne, hk'⟩
  · cases e
    refine ⟨fun ty' hK' => ?_, fun C hK' => ?_⟩
    · cases hK.symm.trans hK'
      obtain ⟨E, c, A, hs, hl, hf⟩ := (O.2 _ _ vs h1).1 _ hK
      refine ⟨E.wr W, _, A.same W, ?_, by rw [List.length_set]; exact hl, fun w hw => ?_⟩
      · simp only [Cell.setSlot, hs]
        rw [List.map_set]
        simp
      · rcases List.mem_or_eq_of_mem_set hw with q | q
        · exact hf w q
        · rw [q]; exact hfit
    · rw [hK] at hK'; cases hK'
  · exact (O.2 k t' vs' hk').other W (by omega)
theorem Ow.put {a0 : Array Value} (O : Ow K Z h n0 D) (hL : Lay K Z a0) (hg : pV D a t i v = some D') (hK : (K t).1 = .object C) (hf : (K t).2[i]? = some (f, d)) (W : Wr h h' (n0 + a) (Jvm.RoadKit.slotOf Z C f d) (sh n0 v)) : Ow K Z h' n0 D' := by
  obtain ⟨vs, h1, h3, rfl⟩ := pV_e hg
  refine ⟨by rw [W.size, O.1, List.length_set], fun k t' vs' hk => ?_⟩
  rcases own_get_set hk with ⟨rfl, e, -⟩ | ⟨hne, hk'⟩
  · cases e
    refine ⟨fun ty' hK' => (by rw [hK] at hK'; cases hK'), fun C' hK' => ?_⟩
    cases hK.symm.trans hK'
    obtain ⟨E, F⟩ := (O.2 _ _ vs h1).2 _ hK
    refine ⟨E.wr W, fun i' f' d' hi' => ?_⟩
    obtain ⟨w, g1, g2⟩ := F i' f' d' hi'
    by_cases q : i' = i
    · subst q
      cases hf.symm.trans hi'
      exact ⟨v, by rw [List.getElem?_set]; simp [h3], g2.same W⟩
    · refine ⟨w, by rw [List.getElem?_set_ne (Ne.symm q)]; exact g1, g2.other W (Or.inr ?_)⟩
      obtain ⟨hl, hn⟩ := hL t C hK
      obtain ⟨l1, ty1, p1⟩ := hl _ (List.mem_of_getElem? hf)
      obtain ⟨l2, ty2, p2⟩ := hl _ (List.mem_of_getElem? hi')
      refine slot_ne l2 l1 (fun e => q ?_) p2 p1
      have m1 : ((K t).2.map Prod.fst)[i]? = some f := by rw [List.getElem?_map, hf]; rfl
      have m2 : ((K t).2.map Prod.fst)[i']? = some f' := by rw [List.getElem?_map, hi']; rfl
      obtain ⟨b1, c1⟩ := List.getElem?_eq_some_iff.mp m1
      obtain ⟨b2, c2⟩ := List.getElem?_eq_some_iff.mp m2
      exact (List.getElem_inj hn).mp (by rw [c1, c2]; exact e)
  · exact (O.2 k t' vs' hk').other W (by omega)
theorem Ob1.ext {x k : Nat} {vs : List Value} (B : Ob1 K Z h n0 x k vs) (E : Ext h h') : Ob1 K Z h' n0 x k vs := by
  refine ⟨fun ty hK => ?_, fun C hK => ?_⟩
  · obtain ⟨F, c, A, r⟩ := B.1 ty hK
    exact ⟨F.ext E, c, A.ext E, r⟩
  · obtain ⟨X, F⟩ := B.2 C hK
    refine ⟨X.ext E, fun i f d hi => ?_⟩
    obtain ⟨v, h1, h2⟩ := F i f d hi
    exact ⟨v, h1, h2.ext E⟩
theorem Ow.push {vs : List Value} (O : Ow K Z h n0 D) (E : Ext h h') (hsz : h'.size = h.size + 1) (B : Ob1 K Z h' n0 (n0 + D.length) t vs) : Ow K Z h' n0 (D ++ [(t, vs)]) := by
  refine ⟨by rw [hsz, O.1, List.length_append]; rfl, fun k t' vs' hk => ?_⟩
  by_cases q : k < D.length
  · rw [List.getElem?_append_left q] at hk; exact (O.2 k t' vs' hk).ext E
  · rw [List.getElem?_append_right (Nat.le_of_not_lt q)] at hk
    have e : k - D.length = 0 := by
      have := (List.getElem?_eq_some_iff.mp hk).1
      simp only [List.length_singleton] at this; omega
    rw [e] at hk
    have hk2 : (t, vs) = (t', vs') := Option.some.inj hk
    cases hk2
    have : k = D.length := by omega
    rw [this]; exact B
theorem sh_default (ty : FieldType) : sh n0 (defaultValue ty) = defaultValue ty := by cases ty <;> rfl
theorem own_ow0 (h : Heap) : Ow K Z h h.size [] := ⟨by simp, fun k t vs hk => by simp at hk⟩
end OwnHeap
/-! 3. the laws of the library, over that list -/
section OwnLaws
variable {p : Program} {l : Launch} {e : Env} {R : Room} {s : State} {m : MethodId} {args : Array Value} {below : List Frame} {meth : Method} {c : Code} {T : State} {locs : List Loc} {cells slots : Nat} {Z : State} {a0 : Array Value} {h : Heap} {K : Kt} {n0 : Nat} {D D' : Hp} {a t : Nat}
theorem ldW (X : Stand p l e R s m args below meth c T locs cells slots) (hx : p.tables.exec = Jvm.exec) (hZ : Z.Warmed39 s.vm) (eT : T.heap = h) (O : Ow K Z h n0 D) {j : Int32} {x : Int32} (hg : rI D a t j = some x) (hK : (K t).1 = .array .int)
    {g : JFrame} (hgm : g.method = m) {rest : List Value} (hs : g.stack = .int j :: .ref (n0 + a) :: rest) (hd : decode c.code g.pc = .ok (.iaload, 1)) (target : State)
    (hr : Steps p.tables e below (T.setTop { g with pc := g.pc + 1, stack := .int x :: rest }) target) : Steps p.tables e below (T.setTop g) target := by
  obtain ⟨cl, A, hin, hat⟩ := O.arrR (rI_e hg) hK
  exact X.iaload hx (v := .int x) (by rw [eT]; exact A.1) (State.isArrayOf_alike hZ.alike A.2.1) A.2.2 hin hat hgm hs hd target hr
theorem ldB (X : Stand p l e R s m args below meth c T locs cells slots) (hx : p.tables.exec = Jvm.exec) (hZ : Z.Warmed39 s.vm) (eT : T.heap = h) (O : Ow K Z h n0 D) {j : Int32} {x : Int32} (hg : rI D a t j = some x) (hK : (K t).1 = .array .byte)
    {g : JFrame} (hgm : g.method = m) {rest : List Value} (hs : g.stack = .int j :: .ref (n0 + a) :: rest) (hd : decode c.code g.pc = .ok (.baload, 1)) (target : State)
    (hr : Steps p.tables e below (T.setTop { g with pc := g.pc + 1, stack := .int x :: rest }) target) : Steps p.tables e below (T.setTop g) target := by
  obtain ⟨cl, A, hin, hat⟩ := O.arrR (rI_e hg) hK
  exact X.baloadBytes hx (v := .int x) (by rw [eT]; exact A.1) (State.isArrayOf_alike hZ.alike A.2.1) A.2.2 hin hat hgm hs hd target hr
theorem ldJ (X : Stand p l e R s m args below meth c T locs cells slots) (hx : p.tables.exec = Jvm.exec) (hZ : Z.Warmed39 s.vm) (eT : T.heap = h) (O : Ow K Z h n0 D) {j : Int32} {x : Int64} (hg : rJ D a t j = some x) (hK : (K t).1 = .array .long)
    {g : JFrame} (hgm : g.method = m) {rest : List Value} (hs : g.stack = .int j :: .ref (n0 + a) :: rest) (hd : decode c.code g.pc = .ok (.laload, 1)) (target : State)
    (hr : Steps p.tables e below (T.setTop { g with pc := g.pc + 1, stack := .long x :: rest }) target) : Steps p.tables e below (T.setTop g) target := by
  obtain ⟨cl, A, hin, hat⟩ := O.arrR (rJ_e hg) hK
  exact X.laload hx (v := .long x) (by rw [eT]; exact A.1) (State.isArrayOf_alike hZ.alike A.2.1) A.2.2 hin hat hgm hs hd target hr
theorem lenW' (X : Stand p l e R s m args below meth c T locs cells slots) (hx : p.tables.exec = Jvm.exec) (hZ : Z.Warmed39 s.vm) (eT : T.heap = h) (O : Ow K Z h n0 D) {x : Int32} (hg : lA D a t = some x) {ty : FieldType} (hK : (K t).1 = .array ty)
    {g : JFrame} (hgm : g.method = m) {rest : List Value} (hs : g.stack = .ref (n0 + a) :: rest) (hd : decode c.code g.pc = .ok (.arraylength, 1)) (target : State)
    (hr : Steps p.tables e below (T.setTop { g with pc := g.pc + 1, stack := .int x :: rest }) target) : Steps p.tables e below (T.setTop g) target := by
  obtain ⟨cl, A, hl⟩ := O.arrL hg hK
  subst hl
  exact X.arraylength hx (by rw [eT]; exact A.1) (State.isArrayOf_alike hZ.alike A.2.1) hgm hs hd target hr
theorem stIW (X : Stand p l e R s m args below meth c T locs cells slots) (hx : p.tables.exec = Jvm.exec) (hZ : Z.Warmed39 s.vm) (eT : T.heap = h) (O : Ow K Z h n0 D) (N : Fr n0 locs) {j x : Int32} (hg : wV D a t j (.int x) = some D') (hK : (K t).1 = .array .int)
    {g : JFrame} (hgm : g.method = m) {rest : List Value} (hs : g.stack = .int x :: .int j :: .ref (n0 + a) :: rest) (hd : decode c.code g.pc = .ok (.iastore, 1)) :
    ∃ T' h' L, Stand p l e R s m args below meth c T' L cells slots ∧ T'.heap = h' ∧ Ow K Z h' n0 D' ∧ Fr n0 L ∧ ∀ target, Steps p.tables e below (T'.setTop { g with pc := g.pc + 1, stack := rest }) target → Steps p.tables e below (T.setTop g) target := by
  obtain ⟨cl, A, hin⟩ := O.arrW hg hK
  obtain ⟨T', h', X', e', W, st⟩ := stI X hx hZ eT A hin hgm hs hd
  exact ⟨T', h', _, X', e', O.st hg hK rfl W, Fr.snoc X' N (Nat.le_add_right _ _), st⟩
theorem stBW (X : Stand p l e R s m args below meth c T locs cells slots) (hx : p.tables.exec = Jvm.exec) (hZ : Z.Warmed39 s.vm) (eT : T.heap = h) (O : Ow K Z h n0 D) (N : Fr n0 locs) {j x : Int32} (hg : wV D a t j (.int x.toInt8.toInt32) = some D') (hK : (K t).1 = .array .byte)
    {g : JFrame} (hgm : g.method = m) {rest : List Value} (hs : g.stack = .int x :: .int j :: .ref (n0 + a) :: rest) (hd : decode c.code g.pc = .ok (.bastore, 1)) :
    ∃ T' h' L, Stand p l e R s m args below meth c T' L cells slots ∧ T'.heap = h' ∧ Ow K Z h' n0 D' ∧ Fr n0 L ∧ ∀ target, Steps p.tables e below (T'.setTop { g with pc := g.pc + 1, stack := rest }) target → Steps p.tables e below (T.setTop g) target := by
  obtain ⟨cl, A, hin⟩ := O.arrW hg hK
  obtain ⟨T', h', X', e', W, st⟩ := stB X hx hZ eT A hin hgm hs hd
  exact ⟨T', h', _, X', e', O.st hg hK (fits_nar_byte _) W, Fr.snoc X' N (Nat.le_add_right _ _), st⟩
theorem stJW (X : Stand p l e R s m args below meth c T locs cells slots) (hx : p.tables.exec = Jvm.exec) (hZ : Z.Warmed39 s.vm) (eT : T.heap = h) (O : Ow K Z h n0 D) (N : Fr n0 locs) {j : Int32} {x : Int64} (hg : wV D a t j (.long x) = some D') (hK : (K t).1 = .array .long)
    {g : JFrame} (hgm : g.method = m) {rest : List Value} (hs : g.stack = .long x :: .int j :: .ref (n0 + a) :: rest) (hd : decode c.code g.pc = .ok (.lastore, 1)) :
    ∃ T' h' L, Stand p l e R s m args below meth c T' L cells slots ∧ T'.heap = h' ∧ Ow K Z h' n0 D' ∧ Fr n0 L ∧ ∀ target, Steps p.tables e below (T'.setTop { g with pc := g.pc + 1, stack := rest }) target → Steps p.tables e below (T.setTop g) target := by
  obtain ⟨cl, A, hin⟩ := O.arrW hg hK
  obtain ⟨T', h', X', e', W, st⟩ := stJ X hx hZ eT A hin hgm hs hd
  exact ⟨T', h', _, X', e', O.st hg hK rfl W, Fr.snoc X' N (Nat.le_add_right _ _), st⟩
theorem putW (X : Stand p l e R s m args below meth c T locs cells slots) (hx : p.tables.exec = Jvm.exec) (hZ : Z.Warmed39 s.vm) {own C f d : String} {index kk i : Nat} {ty : FieldType} (hown : s.vm.findClass own = some m.cls) (w : (Cond.fieldLink own index C f d).before a0 Z = true) (hL : Lay K Z a0)
    (eT : T.heap = h) (O : Ow K Z h n0 D) (N : Fr n0 locs) {v : Value} (hg : pV D a t i v = some D') (hK : (K t).1 = .object C) (hf : (K t).2[i]? = some (f, d)) (L : (Cond.lays C C f d).before a0 Z = true ∨ ((Cond.laysFinal C C f d).before a0 Z = true ∧ own = C ∧ meth.name = "<init>")) (wi : (Cond.instantiable C kk).before a0 Z = true)
    (hty : parseFieldDescriptor d = some ty) (hn : narrow ty (sh n0 v) = sh n0 v) (hfit : fits ty (sh n0 v) = true) {g : JFrame} (hgm : g.method = m) {rest : List Value} (hs : g.stack = sh n0 v :: .ref (n0 + a) :: rest) (hd : decode c.code g.pc = .ok (.putfield index, 3)) :
    ∃ T' h' L, Stand p l e R s m args below meth c T' L cells slots ∧ T'.heap = h' ∧ Ow K Z h' n0 D' ∧ Fr n0 L ∧ ∀ target, Steps p.tables e below (T'.setTop { g with pc := g.pc + 3, stack := rest }) target → Steps p.tables e below (T.setTop g) target := by
  obtain ⟨old, F⟩ := O.fld0 hg hK hf
  obtain ⟨T', h', X', e', W, st⟩ := putF X hx hZ hown (host := "") (Or.inl w) Via.refl eT F (O.exaP hg hK) L wi hty hn hfit hgm hs hd
  exact ⟨T', h', _, X', e', O.put hL hg hK hf W, Fr.snoc X' N (Nat.le_add_right _ _), st⟩
theorem newW (X : Stand p l e R s m args below meth c T locs cells slots) (hx : p.tables.exec = Jvm.exec) (hZ : Z.Warmed39 s.vm) {own C : String} {index n : Nat} (hown : s.vm.findClass own = some m.cls) (w : (Cond.classLink own index C).before a0 Z = true) (wi : (Cond.instantiable C n).before a0 Z = true) (wz : (Cond.initialized C).before a0 Z = true) (hL : Lay K Z a0) (eT : T.heap = h) (O : Ow K Z h n0 D)
    (hK : (K t).1 = .object C) {ds : List Value} (hds : ∀ q ∈ (K t).2.zipIdx, ∃ ty, parseFieldDescriptor q.1.2 = some ty ∧ ds[q.2]? = some (defaultValue ty)) {g : JFrame} (hg : g.method = m) (hd : decode c.code g.pc = .ok (.new index, 3)) (hc : cells + 1 ≤ R.cells) (hl : slots + n ≤ R.slots) :
    ∃ T' h', Stand p l e R s m args below meth c T' locs (cells + 1) (slots + n) ∧ T'.heap = h' ∧ Ow K Z h' n0 (D ++ [(t, ds)]) ∧ ∀ target, Steps p.tables e below (T'.setTop { g with pc := g.pc + 3, stack := .ref (n0 + D.length) :: g.stack }) target → Steps p.tables e below (T.setTop g) target := by
  obtain ⟨vm', cC, kC, h1, h2, h3, h4, X', st⟩ := X.newCold hx hown (mv hZ w) (mv hZ wi) (mv hZ wz) hg hd hc hl
  subst eT
  rw [hZ.alike.findClass] at h1
  obtain ⟨kZ, z1, -⟩ := Vm.findClass_spec h1
  obtain ⟨k', z2, z3⟩ := hZ.alike.2.2 _ _ z1
  cases h2.symm.trans z2
  have ei : kC.instanceTypes = kZ.instanceTypes := by rw [z3]
  have hN : (T.heap.push { cls := cC, slots := kC.instanceTypes.map defaultValue, vm := .none })[T.heap.size]? = some { cls := cC, slots := kC.instanceTypes.map defaultValue, vm := .none } := by simp
  have E : Ext T.heap (T.heap.push { cls := cC, slots := kC.instanceTypes.map defaultValue, vm := .none }) := ⟨by simp, fun a c h => by
    rw [Array.getElem?_push_lt (Array.getElem?_eq_some_iff.mp h).1]; exact (Array.getElem?_eq_getElem _).symm.trans h⟩
  have hsz := O.1
  refine ⟨_, _, X', rfl, O.push E (by simp) ⟨fun ty hK' => (by rw [hK] at hK'; cases hK'), fun C' hK' => ?_⟩, by rw [← hsz]; exact st⟩
  cases hK.symm.trans hK'
  rw [← hsz]
  refine ⟨⟨_, kZ, hN, h1, z1, rfl, fun _ => by simp [ei]⟩, fun i f d hi => ?_⟩
  obtain ⟨ty, t1, t2⟩ := hds ((f, d), i) (List.mem_zipIdx_iff_getElem?.mpr hi)
  refine ⟨_, t2, ?_⟩
  rw [sh_default]
  obtain ⟨c1, k1, cf, kf, i', f', a1, a2, a3, a4, a5, a6, -⟩ := ((hL t C hK).1 _ (List.mem_of_getElem? hi)).1.spec
  cases h1.symm.trans a1
  cases z1.symm.trans a2
  exact ⟨_, cf, kf, i', f', hN, a3, a4, by simp, rfl, a5, by simp [ei, a6, (State.fieldFound?_type a3 t1).2]⟩
theorem newAW (X : Stand p l e R s m args below meth c T locs cells slots) (hx : p.tables.exec = Jvm.exec) (hZ : Z.Warmed39 s.vm) {aty : ArrayType} (w : (Cond.arrayClass (newarray.typeOf aty)).before a0 Z = true) (eT : T.heap = h) (O : Ow K Z h n0 D) (hK : (K t).1 = .array (newarray.typeOf aty))
    {n : Int32} {cap : Nat} {z : Value} (hz : z = defaultValue (newarray.typeOf aty)) (hn : nA D t n cap z = some D') {g : JFrame} (hg : g.method = m) (hd : decode c.code g.pc = .ok (.newarray aty, 2)) {rest : List Value} (hs : g.stack = .int n :: rest)
    (hb : cap * 8 ≤ 536870912) (hc : cells + 1 ≤ R.cells) (hl : slots + cap ≤ R.slots) :
    ∃ T' h', Stand p l e R s m args below meth c T' locs (cells + 1) (slots + cap) ∧ T'.heap = h' ∧ Ow K Z h' n0 D' ∧ ∀ target, Steps p.tables e below (T'.setTop { g with pc := g.pc + 2, stack := .ref (n0 + D.length) :: rest }) target → Steps p.tables e below (T.setTop g) target := by
  have hcb : componentBytes (newarray.typeOf aty) ≤ 8 := by cases aty <;> decide
  by_cases q : n < 0
  · simp only [nA, if_pos q] at hn; cases hn
  simp only [nA, if_neg q] at hn
  by_cases hcap : n.toNatClampNeg ≤ cap
  · rw [if_pos hcap] at hn
    cases hn
    obtain ⟨cA, kA, comp, h1, h2, h3, X', st⟩ := X.newarrayPrim hx (mvA hZ w) hg hd hs q (Nat.le_trans (Nat.mul_le_mul hcap hcb) hb) hc (by omega)
    subst eT
    rw [hZ.alike.findClass] at h1
    obtain ⟨kZ, z1, -⟩ := Vm.findClass_spec h1
    obtain ⟨k', z2, z3⟩ := hZ.alike.2.2 _ _ z1
    cases h2.symm.trans z2
    have hsz := O.1
    refine ⟨_, _, X'.more (Nat.le_refl _) (by omega), rfl, O.push (h' := T.heap.push _) ⟨by simp, fun a c h => ?_⟩ (by simp) ⟨fun ty hK' => ?_, fun C hK' => by rw [hK] at hK'; cases hK'⟩, by rw [← hsz]; exact st⟩
    · rw [Array.getElem?_push_lt (Array.getElem?_eq_some_iff.mp h).1]; exact (Array.getElem?_eq_getElem _).symm.trans h
    · cases hK.symm.trans hK'
      rw [← hsz]
      have ek : kZ.kind = .array comp (newarray.typeOf aty) := by rw [← h3, z3]
      refine ⟨⟨_, kZ, Array.getElem?_push_size, h1, z1, rfl, fun q => by rw [ek] at q; cases q⟩, _, ⟨Array.getElem?_push_size, ⟨by simp, kZ, z1, comp, ek⟩, by simp⟩, ?_, ?_, fun v hv => ?_⟩
      · rw [hz, List.map_replicate, sh_default]; simp
      · rw [List.length_replicate]; exact (back32 q).2
      · rw [(List.mem_replicate.mp hv).2, hz]; cases aty <;> rfl
  · rw [if_neg hcap] at hn; cases hn
/-! 4. contracts and calls -/
def Qw (K : Kt) (Z : State) (n0 : Nat) (r : Option Value) (D' : Hp) : Option Value → Heap → List Loc → Prop := fun v h L => v = r ∧ Fr n0 L ∧ Ow K Z h n0 D'
def Ct (K : Kt) (l : Launch) (Z : State) (y : MethodName) (cw : Jvm.Cond) (rm : Room) (n0 : Nat) (D : Hp) (as' : Array Value) (r : Option Value) (D' : Hp) : Prop :=
  ∀ (h0 : Heap) (ws : List Jvm.Cond), Ow K Z h0 n0 D → MetFree l y (head1 (cw :: ws) rm) (fun a U => a = as' ∧ Z.Warmed39 U.vm ∧ U.heap = h0) (fun _ _ _ _ _ => True) (fun _ U o U' => ∃ v L, o = .returned v ∧ Qw K Z n0 r D' v U'.heap L ∧ FrameEnd U o U' L rm.cells rm.slots)
/-- what stands still through a body -/
def Cx (p : Program) (s : State) (m : MethodId) (meth : Method) (c : Code) (Z : State) (bytes : ByteArray) (maxL : Nat) (ret : Option FieldType) (own nm : String) : Prop :=
  p.tables.exec = Jvm.exec ∧ Z.Warmed39 s.vm ∧ c.code = bytes ∧ c.maxLocals = maxL ∧ s.vm.findClass own = some m.cls ∧ meth.name = nm ∧ meth.sig.returnType = ret ∧ meth.locks = false
variable {y : MethodName} {bytes : ByteArray} {maxL : Nat} {ret : Option FieldType} {rm : Room} {r : Option Value}
theorem Ct.of {as' : Array Value} (hpl : plainFor y = true) (body : ∀ (p : Program) (e : Env) (s : State) (m : MethodId) (below : List Frame) (meth : Method) (c : Code) (s₁ : State) (h0 : Heap), Cx p s m meth c Z bytes maxL ret y.cls y.name → Stand p l e rm s m as' below meth c s₁ [] 0 0 → s₁.heap = h0 → Ow K Z h0 n0 D →
      Gl p e below s rm.cells rm.slots (Qw K Z n0 r D') (s₁.setTop (entryFrame m as' maxL))) : Ct K l Z y (.code y bytes maxL ret) rm n0 D as' r D' := by
  intro h0 ws O
  refine MetFree.of_bodySF hpl hisR ?_
  intro p e s m args below meth c s₁ Bd hml0 hP hK
  obtain ⟨rfl, hZ, hh⟩ := hP
  exact body p e s m below meth c s₁ h0 ⟨Bd.exec, hZ, Bd.bytes, hml0, findClass_of_methodNamed Bd.named, (name_of_methodNamed Bd.named Bd.method).1, Bd.returns, BodyLoose.notSynchronized Bd⟩ (Stand.of_body Bd) (by rw [← hh, Bd.state]; rfl) O
theorem Ct.ofH {as' : Array Value} {hs : List (Nat × Nat × Nat × Nat)} (hpl : plainFor y = true) (body : ∀ (p : Program) (e : Env) (s : State) (m : MethodId) (below : List Frame) (meth : Method) (c : Code) (s₁ : State) (h0 : Heap), Cx p s m meth c Z bytes maxL ret y.cls y.name → Stand p l e rm s m as' below meth c s₁ [] 0 0 → s₁.heap = h0 → Ow K Z h0 n0 D →
      Gl p e below s rm.cells rm.slots (Qw K Z n0 r D') (s₁.setTop (entryFrame m as' maxL))) : Ct K l Z y (.codeWith y bytes maxL ret hs) rm n0 D as' r D' := by
  intro h0 ws O
  refine MetFree.of_bodySF hpl hisWith ?_
  intro p e s m args below meth c s₁ Bd hml0 hP hK
  obtain ⟨rfl, hZ, hh⟩ := hP
  exact body p e s m below meth c s₁ h0 ⟨Bd.exec, hZ, Bd.bytes, hml0, findClass_of_methodNamed Bd.named, (name_of_methodNamed Bd.named Bd.method).1, Bd.returns, BodyLoose.notSynchronized Bd⟩ (Stand.of_body Bd) (by rw [← hh, Bd.state]; rfl) O
theorem callSW (X : Stand p l e R s m args below meth c T locs cells slots) (hx : p.tables.exec = Jvm.exec) (hZ : Z.Warmed39 s.vm) {own : String} {index : Nat} (hown : s.vm.findClass own = some m.cls) (w1 : (Cond.methodLink own index y).before a0 Z = true) (w2 : (Cond.static y).before a0 Z = true) (w3 : (Cond.initialized y.cls).before a0 Z = true) (w4 : (Cond.code y bytes maxL ret).before a0 Z = true)
    (hy : y.cls ≠ "java/lang/invoke/MethodHandle" ∧ y.cls ≠ "java/lang/invoke/VarHandle") (eT : T.heap = h) (O : Ow K Z h n0 D) (N : Fr n0 locs) {as' : List Value} (hM : Ct K l Z y (.code y bytes maxL ret) rm n0 D as'.toArray r D') {W kc ks : Nat} (hkc : rm.cells = kc) (hks : rm.slots = ks) (hf : rm.frames + 1 ≤ R.frames) (hl : W + (maxL + 11) + rm.locals ≤ R.locals)
    {g : JFrame} (hg : g.method = m) (hsize : g.locals.size = c.maxLocals) {rest : List Value} (hlen : ∀ sig, parseMethodDescriptor y.desc = some sig → as'.length = sig.parameters.length) (hs : g.stack = as'.reverse ++ rest) (hW : 2 * g.monitorRoom + (rest.map fun v => v.category).sum ≤ W) (hd : decode c.code g.pc = .ok (.invokestatic index, 3)) (hc : cells + kc ≤ R.cells) (hsl : slots + ks ≤ R.slots) :
    ∃ T' h' L, Stand p l e R s m args below meth c T' L (cells + kc) (slots + ks) ∧ T'.heap = h' ∧ Ow K Z h' n0 D' ∧ Fr n0 L ∧ ∀ target, Steps p.tables e below (T'.setTop { g with pc := g.pc + 3, stack := r.toList ++ rest }) target → Steps p.tables e below (T.setTop g) target := by
  subst hkc hks
  obtain ⟨_, _, ⟨T', L', k', n'⟩, -, X', ⟨Lc, hQ, hL, hk, hn⟩, st⟩ := Jvm.LawKit.callS X hx hown (mvT hZ w1) (mvT hZ w2) (mvT hZ w3) (mvT hZ w4) hy (backOf (W := W) (hM h [] O) hZ w4 w3 hf hl) hg hsize (argsL := as') hlen hs hW hd (fun _ _ => ⟨rfl, eT, hc, hsl⟩)
  dsimp only [Pt.U, Pt.locs, Pt.cells, Pt.slots] at X' hL hk hn st hQ
  subst hL hk hn
  obtain ⟨rfl, N', O'⟩ := hQ
  exact ⟨T', _, _, X', rfl, O', N.app N', st⟩
theorem callSHW (X : Stand p l e R s m args below meth c T locs cells slots) (hx : p.tables.exec = Jvm.exec) (hZ : Z.Warmed39 s.vm) {own : String} {index : Nat} {hs' : List (Nat × Nat × Nat × Nat)} (hown : s.vm.findClass own = some m.cls) (w1 : (Cond.methodLink own index y).before a0 Z = true) (w2 : (Cond.static y).before a0 Z = true) (w3 : (Cond.initialized y.cls).before a0 Z = true) (w4 : (Cond.codeWith y bytes maxL ret hs').before a0 Z = true)
    (hy : y.cls ≠ "java/lang/invoke/MethodHandle" ∧ y.cls ≠ "java/lang/invoke/VarHandle") (eT : T.heap = h) (O : Ow K Z h n0 D) (N : Fr n0 locs) {as' : List Value} (hM : Ct K l Z y (.codeWith y bytes maxL ret hs') rm n0 D as'.toArray r D') {W kc ks : Nat} (hkc : rm.cells = kc) (hks : rm.slots = ks) (hf : rm.frames + 1 ≤ R.frames) (hl : W + (maxL + 11) + rm.locals ≤ R.locals)
    {g : JFrame} (hg : g.method = m) (hsize : g.locals.size = c.maxLocals) {rest : List Value} (hlen : ∀ sig, parseMethodDescriptor y.desc = some sig → as'.length = sig.parameters.length) (hs : g.stack = as'.reverse ++ rest) (hW : 2 * g.monitorRoom + (rest.map fun v => v.category).sum ≤ W) (hd : decode c.code g.pc = .ok (.invokestatic index, 3)) (hc : cells + kc ≤ R.cells) (hsl : slots + ks ≤ R.slots) :
    ∃ T' h' L, Stand p l e R s m args below meth c T' L (cells + kc) (slots + ks) ∧ T'.heap = h' ∧ Ow K Z h' n0 D' ∧ Fr n0 L ∧ ∀ target, Steps p.tables e below (T'.setTop { g with pc := g.pc + 3, stack := r.toList ++ rest }) target → Steps p.tables e below (T.setTop g) target := by
  subst hkc hks
  obtain ⟨_, _, ⟨T', L', k', n'⟩, -, X', ⟨Lc, hQ, hL, hk, hn⟩, st⟩ := callSH X hx hown (mvT hZ w1) (mvT hZ w2) (mvT hZ w3) (mvT hZ w4) hy (backOfWith (W := W) (hM h [] O) hZ w4 w3 hf hl) hg hsize (argsL := as') hlen hs hW hd (fun _ _ => ⟨rfl, eT, hc, hsl⟩)
  dsimp only [Pt.U, Pt.locs, Pt.cells, Pt.slots] at X' hL hk hn st hQ
  subst hL hk hn
  obtain ⟨rfl, N', O'⟩ := hQ
  exact ⟨T', _, _, X', rfl, O', N.app N', st⟩
theorem callIW (X : Stand p l e R s m args below meth c T locs cells slots) (hx : p.tables.exec = Jvm.exec) (hZ : Z.Warmed39 s.vm) {own : String} {index : Nat} (hy1 : y.name = "<init>") (hown : s.vm.findClass own = some m.cls) (w1 : (Cond.methodLink own index y).before a0 Z = true) (w2 : (Cond.instanceMethod y).before a0 Z = true) (w3 : (Cond.initialized y.cls).before a0 Z = true) (w4 : (Cond.code y bytes maxL none).before a0 Z = true)
    (hy : y.cls ≠ "java/lang/invoke/MethodHandle" ∧ y.cls ≠ "java/lang/invoke/VarHandle") (eT : T.heap = h) (O : Ow K Z h n0 D) (N : Fr n0 locs) {as' : List Value} (hM : Ct K l Z y (.code y bytes maxL none) rm n0 D (.ref (n0 + a) :: as').toArray r D') {W kc ks : Nat} (hkc : rm.cells = kc) (hks : rm.slots = ks) (hf : rm.frames + 1 ≤ R.frames) (hl : W + (maxL + 11) + rm.locals ≤ R.locals)
    {g : JFrame} (hg : g.method = m) (hsize : g.locals.size = c.maxLocals) {rest : List Value} (hlen : ∀ sig, parseMethodDescriptor y.desc = some sig → as'.length = sig.parameters.length) (hs : g.stack = as'.reverse ++ .ref (n0 + a) :: rest) (hW : 2 * g.monitorRoom + (rest.map fun v => v.category).sum ≤ W) (hd : decode c.code g.pc = .ok (.invokespecial index, 3)) (hc : cells + kc ≤ R.cells) (hsl : slots + ks ≤ R.slots) :
    ∃ T' h' L, Stand p l e R s m args below meth c T' L (cells + kc) (slots + ks) ∧ T'.heap = h' ∧ Ow K Z h' n0 D' ∧ Fr n0 L ∧ ∀ target, Steps p.tables e below (T'.setTop { g with pc := g.pc + 3, stack := r.toList ++ rest }) target → Steps p.tables e below (T.setTop g) target := by
  subst hkc hks
  obtain ⟨_, _, ⟨T', L', k', n'⟩, -, X', ⟨Lc, hQ, hL, hk, hn⟩, st⟩ := Jvm.LawKit.callI X hx hown hy1 (mvT hZ w1) (mvT hZ w2) (mvT hZ w4) hy (backOf (W := W) (hM h [] O) hZ w4 w3 hf hl) hg hsize (argsL := as') hlen hs hW hd (fun _ _ => ⟨rfl, eT, hc, hsl⟩)
  dsimp only [Pt.U, Pt.locs, Pt.cells, Pt.slots] at X' hL hk hn st hQ
  subst hL hk hn
  obtain ⟨rfl, N', O'⟩ := hQ
  exact ⟨T', _, _, X', rfl, O', N.app N', st⟩
theorem callVW (X : Stand p l e R s m args below meth c T locs cells slots) (hx : p.tables.exec = Jvm.exec) (hZ : Z.Warmed39 s.vm) {own C : String} {index : Nat} (hown : s.vm.findClass own = some m.cls) (w1 : (Cond.methodLink own index y).before a0 Z = true) (w2 : (Cond.declares y).before a0 Z = true) (w5 : (Cond.selects C y y).before a0 Z = true) (w6 : (Cond.instanceMethod y).before a0 Z = true) (w3 : (Cond.initialized y.cls).before a0 Z = true) (w4 : (Cond.code y bytes maxL ret).before a0 Z = true)
    (hy : y.cls ≠ "java/lang/invoke/MethodHandle" ∧ y.cls ≠ "java/lang/invoke/VarHandle") (eT : T.heap = h) (O : Ow K Z h n0 D) (N : Fr n0 locs) {q : Nat} (hck : ck D a t = some q) (hK : (K t).1 = .object C) {as' : List Value} (hM : Ct K l Z y (.code y bytes maxL ret) rm n0 D (.ref (n0 + a) :: as').toArray r D') {W kc ks : Nat} (hkc : rm.cells = kc) (hks : rm.slots = ks) (hf : rm.frames + 1 ≤ R.frames) (hl : W + (maxL + 11) + rm.locals ≤ R.locals)
    {g : JFrame} (hg : g.method = m) (hsize : g.locals.size = c.maxLocals) {rest : List Value} (hlen : ∀ sig, parseMethodDescriptor y.desc = some sig → as'.length = sig.parameters.length) (hs : g.stack = as'.reverse ++ .ref (n0 + a) :: rest) (hW : 2 * g.monitorRoom + (rest.map fun v => v.category).sum ≤ W) (hd : decode c.code g.pc = .ok (.invokevirtual index, 3)) (hc : cells + kc ≤ R.cells) (hsl : slots + ks ≤ R.slots) :
    ∃ T' h' L, Stand p l e R s m args below meth c T' L (cells + kc) (slots + ks) ∧ T'.heap = h' ∧ Ow K Z h' n0 D' ∧ Fr n0 L ∧ ∀ target, Steps p.tables e below (T'.setTop { g with pc := g.pc + 3, stack := r.toList ++ rest }) target → Steps p.tables e below (T.setTop g) target := by
  subst hkc hks
  obtain ⟨cq, kq, qa, qb, qc⟩ := isOf hZ eT (O.exaC hck hK)
  obtain ⟨_, _, ⟨T', L', k', n'⟩, -, X', ⟨Lc, hQ, hL, hk, hn⟩, st⟩ := X.virtualBack hx (y := y) (z := y) hown (mvT hZ w1) (mvT hZ w2) (notFace_of_selects (args := #[]) (mvT hZ w5)) (mvT hZ w5) (mvT hZ w6) hy (backOf (W := W) (hM h [] O) hZ w4 w3 hf hl) qa qc hg hsize (Steps.refl _) (argsL := as') hlen hs hW hd (fun _ _ => ⟨rfl, eT, hc, hsl⟩)
  dsimp only [Pt.U, Pt.locs, Pt.cells, Pt.slots] at X' hL hk hn st hQ
  subst hL hk hn
  obtain ⟨rfl, N', O'⟩ := hQ
  exact ⟨T', _, _, X', rfl, O', N.app N', fun target k => st.trans k⟩
theorem callPW (X : Stand p l e R s m args below meth c T locs cells slots) (hx : p.tables.exec = Jvm.exec) (hZ : Z.Warmed39 s.vm) {own C : String} {index nk : Nat} (hown : s.vm.findClass own = some m.cls) (w1 : (Cond.methodLink own index y).before a0 Z = true) (w2 : (Cond.privateMethod y).before a0 Z = true) (w5 : (Cond.instantiable y.cls nk).before a0 Z = true) (w6 : (Cond.instanceMethod y).before a0 Z = true) (w3 : (Cond.initialized y.cls).before a0 Z = true) (w4 : (Cond.code y bytes maxL ret).before a0 Z = true)
    (hy : y.cls ≠ "java/lang/invoke/MethodHandle" ∧ y.cls ≠ "java/lang/invoke/VarHandle") (eT : T.heap = h) (O : Ow K Z h n0 D) (N : Fr n0 locs) {q : Nat} (hck : ck D a t = some q) (hK : (K t).1 = .object C) {as' : List Value} (hM : Ct K l Z y (.code y bytes maxL ret) rm n0 D (.ref (n0 + a) :: as').toArray r D') {W kc ks : Nat} (hkc : rm.cells = kc) (hks : rm.slots = ks) (hf : rm.frames + 1 ≤ R.frames) (hl : W + (maxL + 11) + rm.locals ≤ R.locals)
    {g : JFrame} (hg : g.method = m) (hsize : g.locals.size = c.maxLocals) {rest : List Value} (hlen : ∀ sig, parseMethodDescriptor y.desc = some sig → as'.length = sig.parameters.length) (hs : g.stack = as'.reverse ++ .ref (n0 + a) :: rest) (hW : 2 * g.monitorRoom + (rest.map fun v => v.category).sum ≤ W) (hd : decode c.code g.pc = .ok (.invokevirtual index, 3)) (hc : cells + kc ≤ R.cells) (hsl : slots + ks ≤ R.slots) :
    ∃ T' h' L, Stand p l e R s m args below meth c T' L (cells + kc) (slots + ks) ∧ T'.heap = h' ∧ Ow K Z h' n0 D' ∧ Fr n0 L ∧ ∀ target, Steps p.tables e below (T'.setTop { g with pc := g.pc + 3, stack := r.toList ++ rest }) target → Steps p.tables e below (T.setTop g) target := by
  subst hkc hks
  obtain ⟨cC, kC, i1, i2, -, i4, -, -⟩ := Cond.instantiable_spec (mvT (args := args) hZ w5)
  have hpr := Cond.privateMethod_at (mvP (args := args) hZ w2)
  have hsel := selects_self_of_private i1 i2 (Bool.or_eq_false_iff.mp i4).1 hpr (mvT (args := args) hZ w6) hy
  obtain ⟨cq, qa, qb⟩ := (O.exaC hck hK).cell
  obtain ⟨_, _, ⟨T', L', k', n'⟩, -, X', ⟨Lc, hQ, hL, hk, hn⟩, st⟩ := X.privateBack hx (y := y) hown (mvT hZ w1) (mvT hZ w6) hsel hpr (mvT hZ w4) hy (backOf (W := W) (hM h [] O) hZ w4 w3 hf hl) hg hsize (Steps.refl _) (by rw [eT]; exact qa) qb (argsL := as') hlen hs hW hd (fun _ _ => ⟨rfl, eT, hc, hsl⟩)
  dsimp only [Pt.U, Pt.locs, Pt.cells, Pt.slots] at X' hL hk hn st hQ
  subst hL hk hn
  obtain ⟨rfl, N', O'⟩ := hQ
  exact ⟨T', _, _, X', rfl, O', N.app N', fun target k => st.trans k⟩
theorem cloneW (X : Stand p l e R s m args below meth c T locs cells slots) (hx : p.tables.exec = Jvm.exec) (hZ : Z.Warmed39 s.vm) {own ad : String} {index : Nat} {ty : FieldType} (hown : s.vm.findClass own = some m.cls) (had : ad = "[" ++ ty.toString)
    (w1 : (Cond.methodLink own index ⟨ad, "clone", "()Ljava/lang/Object;"⟩).before a0 Z = true) (w2 : (Cond.sameMethod ad "java/lang/Object" "clone" "()Ljava/lang/Object;").before a0 Z = true) (w3 : (Cond.native ⟨"java/lang/Object", "clone", "()Ljava/lang/Object;"⟩).before a0 Z = true)
    (w4 : (Cond.instanceMethod ⟨"java/lang/Object", "clone", "()Ljava/lang/Object;"⟩).before a0 Z = true) (w5 : (Cond.selects ad ⟨ad, "clone", "()Ljava/lang/Object;"⟩ ⟨"java/lang/Object", "clone", "()Ljava/lang/Object;"⟩).before a0 Z = true) (w6 : (Cond.castable ad "java/lang/Cloneable").before a0 Z = true)
    (eT : T.heap = h) (O : Ow K Z h n0 D) (hK : (K t).1 = .array ty) {cap : Nat} (hq : cA' D a t cap = some D') {g : JFrame} (hg : g.method = m) (hsize : g.locals.size = c.maxLocals) {rest : List Value} (hs : g.stack = .ref (n0 + a) :: rest) (hd : decode c.code g.pc = .ok (.invokevirtual index, 3))
    (hf : 1 ≤ R.frames) {W : Nat} (hW : 2 * g.monitorRoom + (rest.map fun v => v.category).sum ≤ W) (hl : W + 14 ≤ R.locals) (hc : cells + 1 ≤ R.cells) (hsl : slots + cap ≤ R.slots) :
    ∃ T' h', Stand p l e R s m args below meth c T' locs (cells + 1) (slots + cap) ∧ T'.heap = h' ∧ Ow K Z h' n0 D' ∧ ∀ target, Steps p.tables e below (T'.setTop { g with pc := g.pc + 3, stack := .ref (n0 + D.length) :: rest }) target → Steps p.tables e below (T.setTop g) target := by
  obtain ⟨vs, h1, h2, rfl⟩ := cA_e hq
  obtain ⟨E, cl, A, hsl', hlen, hfit⟩ := (O.2 a t vs h1).1 ty hK
  rw [← had] at E
  obtain ⟨c2, k, e1, e2, e3, e4, e5⟩ := E
  cases A.1.symm.trans e1
  obtain ⟨c1, cC, g1, g2, g3⟩ := Cond.castable_spec w6
  cases e2.symm.trans g1
  have hal : Z.vm.Alike T.vm := hZ.alike.trans X.warmed.alike
  have hsz : cl.slots.size = vs.length := by rw [hsl', sh_len]
  have hfc : ∀ i v, cl.slots[i]? = some v → Z.fitsSlot cl.cls .none i v = true := fun i v hv => by
    obtain ⟨-, k2, hk2, comp, hkind⟩ := A.2.1
    have e : Z.slotType? cl.cls .none i = some ty := by simp [State.slotType?, hk2, hkind]
    have hv' : ∃ w ∈ vs, sh n0 w = v := by
      rw [hsl'] at hv
      have hm : v ∈ vs.map (sh n0) := by
        have := Array.mem_of_getElem? hv
        simpa using this
      exact List.mem_map.mp hm
    obtain ⟨w, hw, rfl⟩ := hv'
    have hfw : fits ty (sh n0 w) = true := by
      have := hfit w hw
      cases w <;> first | exact this | (cases ty <;> first | (cases this; done) | rfl)
    simpa [State.fitsSlot, e] using hfw
  obtain ⟨vm', X', st⟩ := X.cloneArray hx hown (mv hZ w1) (mv hZ w2) (mv hZ w3) (mv hZ w4) (mv hZ w5) (a := n0 + a) (by rw [eT]; exact A.1) A.2.1.1 A.2.2 (by rw [hZ.alike.findClass]; exact e2) (by rw [hZ.alike.findClass]; exact g2) (by rw [hZ.alike.assignable]; exact g3)
    (fun i v hv => by have q := hfc i v hv; rw [← State.fitsSlot_setVm hal] at q; exact q) hg hsize hs hd hf (by omega) hc (by omega)
    (by obtain ⟨-, k2, hk2, comp, hkind⟩ := A.2.1; rw [hZ.alike.clonesLoader]; exact Vm.clonesLoader_of_array hk2 hkind)
  subst eT
  have hs0 := O.1
  refine ⟨_, _, X'.more (Nat.le_refl _) (by omega), rfl, O.push (h' := T.heap.push _) ⟨by simp, fun a c h => ?_⟩ (by simp) ⟨fun ty' hK' => ?_, fun C hK' => by rw [hK] at hK'; cases hK'⟩, by rw [← hs0]; exact st⟩
  · rw [Array.getElem?_push_lt (Array.getElem?_eq_some_iff.mp h).1]; exact (Array.getElem?_eq_getElem _).symm.trans h
  · cases hK.symm.trans hK'
    rw [← hs0, ← had]
    exact ⟨⟨_, k, Array.getElem?_push_size, e2, e3, rfl, e5⟩, _, ⟨Array.getElem?_push_size, ⟨fun _ z => (by cases z), A.2.1.2⟩, fun z => (by cases z)⟩, hsl', hlen, hfit⟩
theorem castW (X : Stand p l e R s m args below meth c T locs cells slots) (hx : p.tables.exec = Jvm.exec) (hZ : Z.Warmed39 s.vm) {own ad : String} {index : Nat} {ty : FieldType} (hown : s.vm.findClass own = some m.cls) (w : (Cond.classLink own index ad).before a0 Z = true) (had : ad = "[" ++ ty.toString) (eT : T.heap = h) (O : Ow K Z h n0 D) {q : Nat} (hck : ck D a t = some q) (hK : (K t).1 = .array ty)
    {g : JFrame} (hg : g.method = m) {rest : List Value} (hs : g.stack = .ref (n0 + a) :: rest) (hd : decode c.code g.pc = .ok (.checkcast index, 3)) : ∃ T', Stand p l e R s m args below meth c T' locs cells slots ∧ T'.heap = h ∧ ∀ target, Steps p.tables e below (T'.setTop { g with pc := g.pc + 3 }) target → Steps p.tables e below (T.setTop g) target := by
  obtain ⟨vs, h1⟩ := ck_e hck
  obtain ⟨E, -⟩ := (O.2 a t vs h1).1 ty hK
  rw [← had] at E
  exact castY X hx hZ hown w eT (Ins.self E) hg hs hd
end OwnLaws
def Kt1 : Kt := fun k => match k with
  | 0 => ((.array .int), [])
  | 1 => ((.object "com/example/sondage/sondage/graph/Graph"), [("nodeCount", "I"), ("ends", "[I")])
  | _ => (.int, [])
theorem lay1 {Z : State} {a0 : Array Value} (hw : ∀ d ∈ tables_1, d.before a0 Z = true) : Lay Kt1 Z a0 := by
  intro t C hC
  match t, hC with
  | 0, hC => cases hC
  | 1, hC =>
    cases hC
    refine ⟨fun q hq => ?_, by decide⟩
    have hq' : q ∈ [(("nodeCount", "I") : String × String), (("ends", "[I") : String × String)] := hq
    simp only [List.mem_cons, List.not_mem_nil, or_false] at hq'
    rcases hq' with rfl | rfl
    · exact ⟨Or.inr (hw _ (List.mem_of_getElem? (i := 19) rfl)), _, (by decide : parseFieldDescriptor _ = some .int)⟩
    · exact ⟨Or.inr (hw _ (List.mem_of_getElem? (i := 21) rfl)), _, (by decide : parseFieldDescriptor _ = some (.array .int))⟩
  | n + 2, hC => cases hC
theorem d1_0 : decode method_2_code 0 = .ok (.iload_n 0, 1) := by decide +kernel
theorem d1_1 : decode method_2_code 1 = .ok (.ldc 7, 2) := by decide +kernel
theorem d1_3 : decode method_2_code 3 = .ok (.iand, 1) := by decide +kernel
theorem d1_4 : decode method_2_code 4 = .ok (.iload_n 1, 1) := by decide +kernel
theorem d1_5 : decode method_2_code 5 = .ok (.irem, 1) := by decide +kernel
theorem d1_6 : decode method_2_code 6 = .ok (.ireturn, 1) := by decide +kernel
theorem pn_1 : plainName "com/example/sondage/sondage/graph/GraphOppositePinLaw" = true := by first | (simp [plainName, overriddenIn]; done) | decide +kernel
def f1 (D : Hp) (i0 : Int32) (i1 : Int32) : Option (Int32 × Hp) :=
  if i1 = (0 : Int32) then none else
  some (((i0 &&& (2147483647 : Int32)) % i1), D)
theorem ef_1 (m : MethodId) (i0 : Int32) (i1 : Int32) : entryFrame m #[(.int i0), (.int i1)] 2 = mkF m 0 #[.val (.int i0), .val (.int i1)] [] := by first | (simp [entryFrame, mkF, argsToLocals, Value.category]; done) | rfl
set_option maxRecDepth 65536 in
set_option maxHeartbeats 40000000 in
theorem ct1 {l : Launch} {Z : State} {a0 : Array Value} (hw : ∀ d ∈ tables_1, d.before a0 Z = true) {n0 : Nat} {D D' : Hp} {i0 : Int32} {i1 : Int32} {r : Int32} (hf : f1 D i0 i1 = some (r, D')) :
    Ct Kt1 l Z (⟨"com/example/sondage/sondage/graph/GraphOppositePinLaw", "draw", "(II)I"⟩ : MethodName) (.code (⟨"com/example/sondage/sondage/graph/GraphOppositePinLaw", "draw", "(II)I"⟩ : MethodName) method_2_code 2 (some .int)) ({ frames := 0, cells := 0, slots := 0, locals := 0 } : Room) n0 D #[(.int i0), (.int i1)] (some (.int r)) D' := by
  refine Ct.of (plainFor_of_name pn_1) ?_
  intro p e s m below meth c T0 h0 hC X0 e0 O0
  obtain ⟨hx, hZ, hby, hml, hown, hnm, hret, hlk⟩ := id hC
  have hml : c.maxLocals = 2 := hml
  have hown : s.vm.findClass "com/example/sondage/sondage/graph/GraphOppositePinLaw" = some m.cls := hown
  have hnm : meth.name = "draw" := hnm
  have N0 := Fr.nil n0
  refine Gl.on (fun t k => castTop (ef_1 m i0 i1) k) ?_
  rw [f1] at hf
  refine Gl.on (B := T0.setTop (mkF m 5 #[.val (.int i0), .val (.int i1)] [(.int i1), (.int (i0 &&& (2147483647 : Int32)))])) (fun t k => ?_) ?_
  · show Steps p.tables e below (T0.setTop (mkF m 0 #[.val (.int i0), .val (.int i1)] [])) _
    refine XS.iloadN X0.here hx rfl (hb hby d1_0) rfl ?_
    show Steps p.tables e below (T0.setTop (mkF m 1 #[.val (.int i0), .val (.int i1)] [(.int i0)])) _
    refine X0.ldcInt hx hown (mvT hZ (hw _ (List.mem_of_getElem? (i := 4) rfl))) (g := (mkF m 1 #[.val (.int i0), .val (.int i1)] [(.int i0)])) rfl (hb hby d1_1) _ ?_
    show Steps p.tables e below (T0.setTop (mkF m 3 #[.val (.int i0), .val (.int i1)] [(.int (2147483647 : Int32)), (.int i0)])) _
    refine XS.iand X0.here hx rfl (hb hby d1_3) rfl ?_
    show Steps p.tables e below (T0.setTop (mkF m 4 #[.val (.int i0), .val (.int i1)] [(.int (i0 &&& (2147483647 : Int32)))])) _
    refine XS.iloadN X0.here hx rfl (hb hby d1_4) rfl ?_
    exact k
  by_cases hz1 : i1 = (0 : Int32)
  · rw [if_pos hz1] at hf; cases hf
  rw [if_neg hz1] at hf
  refine Gl.on (B := T0.setTop (mkF m 6 #[.val (.int i0), .val (.int i1)] [(.int ((i0 &&& (2147483647 : Int32)) % i1))])) (fun t k => ?_) ?_
  · show Steps p.tables e below (T0.setTop (mkF m 5 #[.val (.int i0), .val (.int i1)] [(.int i1), (.int (i0 &&& (2147483647 : Int32)))])) _
    refine iremM X0 hx rfl (hb hby d1_5) rfl hz1 ?_
    exact k
  obtain ⟨rfl, rfl⟩ := own_inj hf
  exact Gl.outI X0 hx hlk hret (hb hby d1_6) ⟨rfl, N0, by rw [e0]; exact O0⟩ (by show _ ≤ 0; omega) (by show _ ≤ 0; omega)
theorem d2_0 : decode method_3_code 0 = .ok (.iload_n 0, 1) := by decide +kernel
theorem d2_1 : decode method_3_code 1 = .ok (.iconst 1, 1) := by decide +kernel
theorem d2_2 : decode method_3_code 2 = .ok (.iadd, 1) := by decide +kernel
theorem d2_3 : decode method_3_code 3 = .ok (.iload_n 1, 1) := by decide +kernel
theorem d2_4 : decode method_3_code 4 = .ok (.ldc 7, 2) := by decide +kernel
theorem d2_6 : decode method_3_code 6 = .ok (.iand, 1) := by decide +kernel
theorem d2_7 : decode method_3_code 7 = .ok (.iload_n 2, 1) := by decide +kernel
theorem d2_8 : decode method_3_code 8 = .ok (.iconst 1, 1) := by decide +kernel
theorem d2_9 : decode method_3_code 9 = .ok (.isub, 1) := by decide +kernel
theorem d2_10 : decode method_3_code 10 = .ok (.irem, 1) := by decide +kernel
theorem d2_11 : decode method_3_code 11 = .ok (.iadd, 1) := by decide +kernel
theorem d2_12 : decode method_3_code 12 = .ok (.iload_n 2, 1) := by decide +kernel
theorem d2_13 : decode method_3_code 13 = .ok (.irem, 1) := by decide +kernel
theorem d2_14 : decode method_3_code 14 = .ok (.ireturn, 1) := by decide +kernel
theorem pn_2 : plainName "com/example/sondage/sondage/graph/GraphOppositePinLaw" = true := by first | (simp [plainName, overriddenIn]; done) | decide +kernel
def f2 (D : Hp) (i0 : Int32) (i1 : Int32) (i2 : Int32) : Option (Int32 × Hp) :=
  if (i2 - (1 : Int32)) = (0 : Int32) then none else
  if i2 = (0 : Int32) then none else
  some ((((i0 + (1 : Int32)) + ((i1 &&& (2147483647 : Int32)) % (i2 - (1 : Int32)))) % i2), D)
theorem ef_2 (m : MethodId) (i0 : Int32) (i1 : Int32) (i2 : Int32) : entryFrame m #[(.int i0), (.int i1), (.int i2)] 3 = mkF m 0 #[.val (.int i0), .val (.int i1), .val (.int i2)] [] := by first | (simp [entryFrame, mkF, argsToLocals, Value.category]; done) | rfl
set_option maxRecDepth 65536 in
set_option maxHeartbeats 40000000 in
theorem ct2 {l : Launch} {Z : State} {a0 : Array Value} (hw : ∀ d ∈ tables_1, d.before a0 Z = true) {n0 : Nat} {D D' : Hp} {i0 : Int32} {i1 : Int32} {i2 : Int32} {r : Int32} (hf : f2 D i0 i1 i2 = some (r, D')) :
    Ct Kt1 l Z (⟨"com/example/sondage/sondage/graph/GraphOppositePinLaw", "other", "(III)I"⟩ : MethodName) (.code (⟨"com/example/sondage/sondage/graph/GraphOppositePinLaw", "other", "(III)I"⟩ : MethodName) method_3_code 3 (some .int)) ({ frames := 0, cells := 0, slots := 0, locals := 0 } : Room) n0 D #[(.int i0), (.int i1), (.int i2)] (some (.int r)) D' := by
  refine Ct.of (plainFor_of_name pn_2) ?_
  intro p e s m below meth c T0 h0 hC X0 e0 O0
  obtain ⟨hx, hZ, hby, hml, hown, hnm, hret, hlk⟩ := id hC
  have hml : c.maxLocals = 3 := hml
  have hown : s.vm.findClass "com/example/sondage/sondage/graph/GraphOppositePinLaw" = some m.cls := hown
  have hnm : meth.name = "other" := hnm
  have N0 := Fr.nil n0
  refine Gl.on (fun t k => castTop (ef_2 m i0 i1 i2) k) ?_
  rw [f2] at hf
  refine Gl.on (B := T0.setTop (mkF m 10 #[.val (.int i0), .val (.int i1), .val (.int i2)] [(.int (i2 - (1 : Int32))), (.int (i1 &&& (2147483647 : Int32))), (.int (i0 + (1 : Int32)))])) (fun t k => ?_) ?_
  · show Steps p.tables e below (T0.setTop (mkF m 0 #[.val (.int i0), .val (.int i1), .val (.int i2)] [])) _
    refine XS.iloadN X0.here hx rfl (hb hby d2_0) rfl ?_
    show Steps p.tables e below (T0.setTop (mkF m 1 #[.val (.int i0), .val (.int i1), .val (.int i2)] [(.int i0)])) _
    refine XS.iconst X0.here hx rfl (hb hby d2_1) ?_
    show Steps p.tables e below (T0.setTop (mkF m 2 #[.val (.int i0), .val (.int i1), .val (.int i2)] [(.int (1 : Int32)), (.int i0)])) _
    refine XS.iadd X0.here hx rfl (hb hby d2_2) rfl ?_
    show Steps p.tables e below (T0.setTop (mkF m 3 #[.val (.int i0), .val (.int i1), .val (.int i2)] [(.int (i0 + (1 : Int32)))])) _
    refine XS.iloadN X0.here hx rfl (hb hby d2_3) rfl ?_
    show Steps p.tables e below (T0.setTop (mkF m 4 #[.val (.int i0), .val (.int i1), .val (.int i2)] [(.int i1), (.int (i0 + (1 : Int32)))])) _
    refine X0.ldcInt hx hown (mvT hZ (hw _ (List.mem_of_getElem? (i := 4) rfl))) (g := (mkF m 4 #[.val (.int i0), .val (.int i1), .val (.int i2)] [(.int i1), (.int (i0 + (1 : Int32)))])) rfl (hb hby d2_4) _ ?_
    show Steps p.tables e below (T0.setTop (mkF m 6 #[.val (.int i0), .val (.int i1), .val (.int i2)] [(.int (2147483647 : Int32)), (.int i1), (.int (i0 + (1 : Int32)))])) _
    refine XS.iand X0.here hx rfl (hb hby d2_6) rfl ?_
    show Steps p.tables e below (T0.setTop (mkF m 7 #[.val (.int i0), .val (.int i1), .val (.int i2)] [(.int (i1 &&& (2147483647 : Int32))), (.int (i0 + (1 : Int32)))])) _
    refine XS.iloadN X0.here hx rfl (hb hby d2_7) rfl ?_
    show Steps p.tables e below (T0.setTop (mkF m 8 #[.val (.int i0), .val (.int i1), .val (.int i2)] [(.int i2), (.int (i1 &&& (2147483647 : Int32))), (.int (i0 + (1 : Int32)))])) _
    refine XS.iconst X0.here hx rfl (hb hby d2_8) ?_
    show Steps p.tables e below (T0.setTop (mkF m 9 #[.val (.int i0), .val (.int i1), .val (.int i2)] [(.int (1 : Int32)), (.int i2), (.int (i1 &&& (2147483647 : Int32))), (.int (i0 + (1 : Int32)))])) _
    refine XS.isub X0.here hx rfl (hb hby d2_9) rfl ?_
    exact k
  by_cases hz1 : (i2 - (1 : Int32)) = (0 : Int32)
  · rw [if_pos hz1] at hf; cases hf
  rw [if_neg hz1] at hf
  refine Gl.on (B := T0.setTop (mkF m 13 #[.val (.int i0), .val (.int i1), .val (.int i2)] [(.int i2), (.int ((i0 + (1 : Int32)) + ((i1 &&& (2147483647 : Int32)) % (i2 - (1 : Int32)))))])) (fun t k => ?_) ?_
  · show Steps p.tables e below (T0.setTop (mkF m 10 #[.val (.int i0), .val (.int i1), .val (.int i2)] [(.int (i2 - (1 : Int32))), (.int (i1 &&& (2147483647 : Int32))), (.int (i0 + (1 : Int32)))])) _
    refine iremM X0 hx rfl (hb hby d2_10) rfl hz1 ?_
    show Steps p.tables e below (T0.setTop (mkF m 11 #[.val (.int i0), .val (.int i1), .val (.int i2)] [(.int ((i1 &&& (2147483647 : Int32)) % (i2 - (1 : Int32)))), (.int (i0 + (1 : Int32)))])) _
    refine XS.iadd X0.here hx rfl (hb hby d2_11) rfl ?_
    show Steps p.tables e below (T0.setTop (mkF m 12 #[.val (.int i0), .val (.int i1), .val (.int i2)] [(.int ((i0 + (1 : Int32)) + ((i1 &&& (2147483647 : Int32)) % (i2 - (1 : Int32)))))])) _
    refine XS.iloadN X0.here hx rfl (hb hby d2_12) rfl ?_
    exact k
  by_cases hz2 : i2 = (0 : Int32)
  · rw [if_pos hz2] at hf; cases hf
  rw [if_neg hz2] at hf
  refine Gl.on (B := T0.setTop (mkF m 14 #[.val (.int i0), .val (.int i1), .val (.int i2)] [(.int (((i0 + (1 : Int32)) + ((i1 &&& (2147483647 : Int32)) % (i2 - (1 : Int32)))) % i2))])) (fun t k => ?_) ?_
  · show Steps p.tables e below (T0.setTop (mkF m 13 #[.val (.int i0), .val (.int i1), .val (.int i2)] [(.int i2), (.int ((i0 + (1 : Int32)) + ((i1 &&& (2147483647 : Int32)) % (i2 - (1 : Int32)))))])) _
    refine iremM X0 hx rfl (hb hby d2_13) rfl hz2 ?_
    exact k
  obtain ⟨rfl, rfl⟩ := own_inj hf
  exact Gl.outI X0 hx hlk hret (hb hby d2_14) ⟨rfl, N0, by rw [e0]; exact O0⟩ (by show _ ≤ 0; omega) (by show _ ≤ 0; omega)
theorem d5_0 : decode prog_29_method_2_code 0 = .ok (.iload_n 2, 1) := by decide +kernel
theorem d5_1 : decode prog_29_method_2_code 1 = .ok (.ifCond .lt 11, 3) := by decide +kernel
theorem d5_4 : decode prog_29_method_2_code 4 = .ok (.iload_n 2, 1) := by decide +kernel
theorem d5_5 : decode prog_29_method_2_code 5 = .ok (.aload_n 0, 1) := by decide +kernel
theorem d5_6 : decode prog_29_method_2_code 6 = .ok (.getfield 19, 3) := by decide +kernel
theorem d5_9 : decode prog_29_method_2_code 9 = .ok (.if_icmp .lt 24, 3) := by decide +kernel
theorem d5_33 : decode prog_29_method_2_code 33 = .ok (.return_, 1) := by decide +kernel
theorem pn_5 : plainName "com/example/sondage/sondage/graph/Graph" = true := by first | (simp [plainName, overriddenIn]; done) | decide +kernel
def f5 (D : Hp) (ob0 : Nat) (i1 : Int32) (i2 : Int32) : Option (Hp) :=
  if i2 < (0 : Int32) then (none) else ((gI D ob0 1 0).bind fun x2 =>
  if i2 < x2 then (some D) else (none))
theorem ef_5 (m : MethodId) (n0 : Nat) (ob0 : Nat) (i1 : Int32) (i2 : Int32) : entryFrame m #[(.ref (n0 + ob0)), (.int i1), (.int i2)] 3 = mkF m 0 #[.val (.ref (n0 + ob0)), .val (.int i1), .val (.int i2)] [] := by first | (simp [entryFrame, mkF, argsToLocals, Value.category]; done) | rfl
set_option maxRecDepth 65536 in
set_option maxHeartbeats 40000000 in
theorem ct5 {l : Launch} {Z : State} {a0 : Array Value} (hw : ∀ d ∈ tables_1, d.before a0 Z = true) {n0 : Nat} {D D' : Hp} {ob0 : Nat} {i1 : Int32} {i2 : Int32} (hf : f5 D ob0 i1 i2 = some D') :
    Ct Kt1 l Z (⟨"com/example/sondage/sondage/graph/Graph", "checkNode", "(II)V"⟩ : MethodName) (.code (⟨"com/example/sondage/sondage/graph/Graph", "checkNode", "(II)V"⟩ : MethodName) prog_29_method_2_code 3 none) ({ frames := 0, cells := 0, slots := 0, locals := 0 } : Room) n0 D #[(.ref (n0 + ob0)), (.int i1), (.int i2)] none D' := by
  refine Ct.of (plainFor_of_name pn_5) ?_
  intro p e s m below meth c T0 h0 hC X0 e0 O0
  obtain ⟨hx, hZ, hby, hml, hown, hnm, hret, hlk⟩ := id hC
  have hml : c.maxLocals = 3 := hml
  have hown : s.vm.findClass "com/example/sondage/sondage/graph/Graph" = some m.cls := hown
  have hnm : meth.name = "checkNode" := hnm
  have N0 := Fr.nil n0
  refine Gl.on (fun t k => castTop (ef_5 m n0 ob0 i1 i2) k) ?_
  rw [f5] at hf
  refine Gl.on (B := T0.setTop (mkF m 1 #[.val (.ref (n0 + ob0)), .val (.int i1), .val (.int i2)] [(.int i2)])) (fun t k => ?_) ?_
  · show Steps p.tables e below (T0.setTop (mkF m 0 #[.val (.ref (n0 + ob0)), .val (.int i1), .val (.int i2)] [])) _
    refine XS.iloadN X0.here hx rfl (hb hby d5_0) rfl ?_
    exact k
  by_cases hc1 : i2 < (0 : Int32)
  · rw [if_pos hc1] at hf
    cases hf
  · rw [if_neg hc1] at hf
    obtain ⟨x2, hx2, hf⟩ := own_bind hf
    obtain ⟨T3, X3, e3, st3⟩ := getF X0 hx hZ hown (host := "") (Or.inl (hw _ (List.mem_of_getElem? (i := 18) rfl))) Via.refl e0 (O0.fld (gI_e hx2) rfl rfl) (g := (mkF m 6 #[.val (.ref (n0 + ob0)), .val (.int i1), .val (.int i2)] [(.ref (n0 + ob0)), (.int i2)])) rfl rfl (hb hby d5_6)
    refine Gl.on (B := T3.setTop (mkF m 9 #[.val (.ref (n0 + ob0)), .val (.int i1), .val (.int i2)] [(.int x2), (.int i2)])) (fun t k => ?_) ?_
    · show Steps p.tables e below (T0.setTop (mkF m 1 #[.val (.ref (n0 + ob0)), .val (.int i1), .val (.int i2)] [(.int i2)])) _
      refine XS.ifNo X0.here hx rfl (hb hby d5_1) rfl ((if0 _ _).trans (flt hc1).1) ?_
      show Steps p.tables e below (T0.setTop (mkF m 4 #[.val (.ref (n0 + ob0)), .val (.int i1), .val (.int i2)] [])) _
      refine XS.iloadN X0.here hx rfl (hb hby d5_4) rfl ?_
      show Steps p.tables e below (T0.setTop (mkF m 5 #[.val (.ref (n0 + ob0)), .val (.int i1), .val (.int i2)] [(.int i2)])) _
      refine XS.aloadN X0.here hx rfl (hb hby d5_5) rfl rfl ?_
      show Steps p.tables e below (T0.setTop (mkF m 6 #[.val (.ref (n0 + ob0)), .val (.int i1), .val (.int i2)] [(.ref (n0 + ob0)), (.int i2)])) _
      refine st3 _ ?_
      exact k
    by_cases hc4 : i2 < x2
    · rw [if_pos hc4] at hf
      refine Gl.on (B := T3.setTop (mkF m 33 #[.val (.ref (n0 + ob0)), .val (.int i1), .val (.int i2)] [])) (fun t k => ?_) ?_
      · show Steps p.tables e below (T3.setTop (mkF m 9 #[.val (.ref (n0 + ob0)), .val (.int i1), .val (.int i2)] [(.int x2), (.int i2)])) _
        refine XS.icmpYes X3.here hx rfl (pc0 := 9) (pc' := 33) rfl (hb hby d5_9) rfl (tlt hc4).1 (by decide) (by decide) ?_
        exact k
      obtain rfl := own_inj1 hf
      exact Gl.outV X3 hx hlk hret (hb hby d5_33) ⟨rfl, N0, by rw [e3]; exact O0⟩ (by show _ ≤ 0; omega) (by show _ ≤ 0; omega)
    · rw [if_neg hc4] at hf
      cases hf
theorem pd_0 : parseMethodDescriptor "(II)V" = some ⟨[.int, .int], none⟩ := by decide +kernel
theorem d3_0 : decode prog_29_method_1_code 0 = .ok (.aload_n 0, 1) := by decide +kernel
theorem d3_1 : decode prog_29_method_1_code 1 = .ok (.invokespecial 1, 3) := by decide +kernel
theorem d3_4 : decode prog_29_method_1_code 4 = .ok (.iload_n 1, 1) := by decide +kernel
theorem d3_5 : decode prog_29_method_1_code 5 = .ok (.iconst 1, 1) := by decide +kernel
theorem d3_6 : decode prog_29_method_1_code 6 = .ok (.if_icmp .ge 17, 3) := by decide +kernel
theorem d3_23 : decode prog_29_method_1_code 23 = .ok (.aload_n 2, 1) := by decide +kernel
theorem d3_24 : decode prog_29_method_1_code 24 = .ok (.arraylength, 1) := by decide +kernel
theorem d3_25 : decode prog_29_method_1_code 25 = .ok (.aload_n 3, 1) := by decide +kernel
theorem d3_26 : decode prog_29_method_1_code 26 = .ok (.arraylength, 1) := by decide +kernel
theorem d3_27 : decode prog_29_method_1_code 27 = .ok (.if_icmp .eq 20, 3) := by decide +kernel
theorem d3_47 : decode prog_29_method_1_code 47 = .ok (.aload_n 0, 1) := by decide +kernel
theorem d3_48 : decode prog_29_method_1_code 48 = .ok (.iload_n 1, 1) := by decide +kernel
theorem d3_49 : decode prog_29_method_1_code 49 = .ok (.putfield 19, 3) := by decide +kernel
theorem d3_52 : decode prog_29_method_1_code 52 = .ok (.aload_n 0, 1) := by decide +kernel
theorem d3_53 : decode prog_29_method_1_code 53 = .ok (.iconst 2, 1) := by decide +kernel
theorem d3_54 : decode prog_29_method_1_code 54 = .ok (.aload_n 2, 1) := by decide +kernel
theorem d3_55 : decode prog_29_method_1_code 55 = .ok (.arraylength, 1) := by decide +kernel
theorem d3_56 : decode prog_29_method_1_code 56 = .ok (.imul, 1) := by decide +kernel
theorem d3_57 : decode prog_29_method_1_code 57 = .ok (.newarray .int, 2) := by decide +kernel
theorem d3_59 : decode prog_29_method_1_code 59 = .ok (.putfield 25, 3) := by decide +kernel
theorem d3_62 : decode prog_29_method_1_code 62 = .ok (.iconst 0, 1) := by decide +kernel
theorem d3_63 : decode prog_29_method_1_code 63 = .ok (.istore 4, 2) := by decide +kernel
theorem d3_65 : decode prog_29_method_1_code 65 = .ok (.iload 4, 2) := by decide +kernel
theorem d3_67 : decode prog_29_method_1_code 67 = .ok (.aload_n 2, 1) := by decide +kernel
theorem d3_68 : decode prog_29_method_1_code 68 = .ok (.arraylength, 1) := by decide +kernel
theorem d3_69 : decode prog_29_method_1_code 69 = .ok (.if_icmp .ge 87, 3) := by decide +kernel
theorem d3_72 : decode prog_29_method_1_code 72 = .ok (.aload_n 0, 1) := by decide +kernel
theorem d3_73 : decode prog_29_method_1_code 73 = .ok (.iload 4, 2) := by decide +kernel
theorem d3_75 : decode prog_29_method_1_code 75 = .ok (.aload_n 2, 1) := by decide +kernel
theorem d3_76 : decode prog_29_method_1_code 76 = .ok (.iload 4, 2) := by decide +kernel
theorem d3_78 : decode prog_29_method_1_code 78 = .ok (.iaload, 1) := by decide +kernel
theorem d3_79 : decode prog_29_method_1_code 79 = .ok (.invokevirtual 29, 3) := by decide +kernel
theorem d3_82 : decode prog_29_method_1_code 82 = .ok (.aload_n 0, 1) := by decide +kernel
theorem d3_83 : decode prog_29_method_1_code 83 = .ok (.iload 4, 2) := by decide +kernel
theorem d3_85 : decode prog_29_method_1_code 85 = .ok (.aload_n 3, 1) := by decide +kernel
theorem d3_86 : decode prog_29_method_1_code 86 = .ok (.iload 4, 2) := by decide +kernel
theorem d3_88 : decode prog_29_method_1_code 88 = .ok (.iaload, 1) := by decide +kernel
theorem d3_89 : decode prog_29_method_1_code 89 = .ok (.invokevirtual 29, 3) := by decide +kernel
theorem d3_92 : decode prog_29_method_1_code 92 = .ok (.aload_n 2, 1) := by decide +kernel
theorem d3_93 : decode prog_29_method_1_code 93 = .ok (.iload 4, 2) := by decide +kernel
theorem d3_95 : decode prog_29_method_1_code 95 = .ok (.iaload, 1) := by decide +kernel
theorem d3_96 : decode prog_29_method_1_code 96 = .ok (.aload_n 3, 1) := by decide +kernel
theorem d3_97 : decode prog_29_method_1_code 97 = .ok (.iload 4, 2) := by decide +kernel
theorem d3_99 : decode prog_29_method_1_code 99 = .ok (.iaload, 1) := by decide +kernel
theorem d3_100 : decode prog_29_method_1_code 100 = .ok (.if_icmp .ne 22, 3) := by decide +kernel
theorem d3_122 : decode prog_29_method_1_code 122 = .ok (.aload_n 0, 1) := by decide +kernel
theorem d3_123 : decode prog_29_method_1_code 123 = .ok (.getfield 25, 3) := by decide +kernel
theorem d3_126 : decode prog_29_method_1_code 126 = .ok (.iconst 2, 1) := by decide +kernel
theorem d3_127 : decode prog_29_method_1_code 127 = .ok (.iload 4, 2) := by decide +kernel
theorem d3_129 : decode prog_29_method_1_code 129 = .ok (.imul, 1) := by decide +kernel
theorem d3_130 : decode prog_29_method_1_code 130 = .ok (.aload_n 2, 1) := by decide +kernel
theorem d3_131 : decode prog_29_method_1_code 131 = .ok (.iload 4, 2) := by decide +kernel
theorem d3_133 : decode prog_29_method_1_code 133 = .ok (.iaload, 1) := by decide +kernel
theorem d3_134 : decode prog_29_method_1_code 134 = .ok (.iastore, 1) := by decide +kernel
theorem d3_135 : decode prog_29_method_1_code 135 = .ok (.aload_n 0, 1) := by decide +kernel
theorem d3_136 : decode prog_29_method_1_code 136 = .ok (.getfield 25, 3) := by decide +kernel
theorem d3_139 : decode prog_29_method_1_code 139 = .ok (.iconst 2, 1) := by decide +kernel
theorem d3_140 : decode prog_29_method_1_code 140 = .ok (.iload 4, 2) := by decide +kernel
theorem d3_142 : decode prog_29_method_1_code 142 = .ok (.imul, 1) := by decide +kernel
theorem d3_143 : decode prog_29_method_1_code 143 = .ok (.iconst 1, 1) := by decide +kernel
theorem d3_144 : decode prog_29_method_1_code 144 = .ok (.iadd, 1) := by decide +kernel
theorem d3_145 : decode prog_29_method_1_code 145 = .ok (.aload_n 3, 1) := by decide +kernel
theorem d3_146 : decode prog_29_method_1_code 146 = .ok (.iload 4, 2) := by decide +kernel
theorem d3_148 : decode prog_29_method_1_code 148 = .ok (.iaload, 1) := by decide +kernel
theorem d3_149 : decode prog_29_method_1_code 149 = .ok (.iastore, 1) := by decide +kernel
theorem d3_150 : decode prog_29_method_1_code 150 = .ok (.iinc 4 1, 3) := by decide +kernel
theorem d3_153 : decode prog_29_method_1_code 153 = .ok (.goto (-88), 3) := by decide +kernel
theorem d3_156 : decode prog_29_method_1_code 156 = .ok (.return_, 1) := by decide +kernel
theorem pn_3 : plainName "com/example/sondage/sondage/graph/Graph" = true := by first | (simp [plainName, overriddenIn]; done) | decide +kernel
def b3_65 : Nat → Hp → Nat → Nat → Nat → Int32 → Option (Hp)
  | 0, _, _, _, _, _ => none
  | fu + 1, D, ob0, ob2, ob3, i4 =>
  (lA D ob2 0).bind fun x10 =>
  if i4 < x10 then ((rI D ob2 0 i4).bind fun x12 =>
  (ck D ob0 1).bind fun u14 => (f5 D ob0 i4 x12).bind fun D13 =>
  (rI D13 ob3 0 i4).bind fun x15 =>
  (ck D13 ob0 1).bind fun u17 => (f5 D13 ob0 i4 x15).bind fun D16 =>
  (rI D16 ob2 0 i4).bind fun x18 =>
  (rI D16 ob3 0 i4).bind fun x19 =>
  if x18 = x19 then (none) else ((gR D16 ob0 1 1).bind fun x21 =>
  (rI D16 ob2 0 i4).bind fun x23 =>
  (wV D16 x21 0 ((2 : Int32) * i4) (.int x23)).bind fun D24 =>
  (gR D24 ob0 1 1).bind fun x25 =>
  (rI D24 ob3 0 i4).bind fun x27 =>
  (wV D24 x25 0 (((2 : Int32) * i4) + (1 : Int32)) (.int x27)).bind fun D28 =>
  b3_65 fu D28 ob0 ob2 ob3 (i4 + (1 : Int32)))) else (some D)
set_option maxRecDepth 65536 in
set_option maxHeartbeats 40000000 in
theorem bt3_65 {p : Program} {l : Launch} {e : Env} {s : State} {m : MethodId} {args : Array Value} {below : List Frame} {meth : Method} {c : Code} {Z : State} {a0 : Array Value} {n0 : Nat} {D' : Hp} (hw : ∀ d ∈ tables_1, d.before a0 Z = true) (hC : Cx p s m meth c Z prog_29_method_1_code 5 none "com/example/sondage/sondage/graph/Graph" "<init>") (fu : Nat) : ∀ {T0 : State} {locs : List Loc} {cells slots : Nat} {h0 : Heap} {D : Hp} {ob0 : Nat} {i1 : Int32} {ob2 : Nat} {ob3 : Nat} {i4 : Int32}, (Stand p l e ({ frames := 1, cells := 1, slots := 8, locals := 14 } : Room) s m args below meth c T0 locs cells slots) → (T0.heap = h0) → (Ow Kt1 Z h0 n0 D) → (Fr n0 locs) → (cells ≤ 1) → (slots ≤ 8) → (b3_65 fu D ob0 ob2 ob3 i4 = some D') → Gl p e below s 1 8 (Qw Kt1 Z n0 none D') (T0.setTop (mkF m 65 #[.val (.ref (n0 + ob0)), .val (.int i1), .val (.ref (n0 + ob2)), .val (.ref (n0 + ob3)), .val (.int i4)] [])) := by
  obtain ⟨hx, hZ, hby, hml, hown, hnm, hret, hlk⟩ := id hC
  have hml : c.maxLocals = 5 := hml
  induction fu with
  | zero => intro T0 locs cells slots h0 D ob0 i1 ob2 ob3 i4 X0 e0 O0 N0 hcc hss hf; cases hf
  | succ fu ih =>
    intro T0 locs cells slots h0 D ob0 i1 ob2 ob3 i4 X0 e0 O0 N0 hcc hss hf
    rw [b3_65] at hf
    obtain ⟨x10, hx10, hf⟩ := own_bind hf
    refine Gl.on (B := T0.setTop (mkF m 69 #[.val (.ref (n0 + ob0)), .val (.int i1), .val (.ref (n0 + ob2)), .val (.ref (n0 + ob3)), .val (.int i4)] [(.int x10), (.int i4)])) (fun t k => ?_) ?_
    · show Steps p.tables e below (T0.setTop (mkF m 65 #[.val (.ref (n0 + ob0)), .val (.int i1), .val (.ref (n0 + ob2)), .val (.ref (n0 + ob3)), .val (.int i4)] [])) _
      refine XS.iload X0.here hx rfl (hb hby d3_65) rfl ?_
      show Steps p.tables e below (T0.setTop (mkF m 67 #[.val (.ref (n0 + ob0)), .val (.int i1), .val (.ref (n0 + ob2)), .val (.ref (n0 + ob3)), .val (.int i4)] [(.int i4)])) _
      refine XS.aloadN X0.here hx rfl (hb hby d3_67) rfl rfl ?_
      show Steps p.tables e below (T0.setTop (mkF m 68 #[.val (.ref (n0 + ob0)), .val (.int i1), .val (.ref (n0 + ob2)), .val (.ref (n0 + ob3)), .val (.int i4)] [(.ref (n0 + ob2)), (.int i4)])) _
      refine lenW' X0 hx hZ e0 O0 hx10 (ty := .int) rfl (g := (mkF m 68 #[.val (.ref (n0 + ob0)), .val (.int i1), .val (.ref (n0 + ob2)), .val (.ref (n0 + ob3)), .val (.int i4)] [(.ref (n0 + ob2)), (.int i4)])) rfl rfl (hb hby d3_68) _ ?_
      exact k
    by_cases hc11 : i4 < x10
    · rw [if_pos hc11] at hf
      obtain ⟨x12, hx12, hf⟩ := own_bind hf
      obtain ⟨u14, hk13, hf⟩ := own_bind hf
      obtain ⟨D13, hq13, hf⟩ := own_bind hf
      obtain ⟨T13, h13, L13, X13, e13, O13, N13, st13⟩ := callPW X0 hx hZ (y := (⟨"com/example/sondage/sondage/graph/Graph", "checkNode", "(II)V"⟩ : MethodName)) hown (hw _ (List.mem_of_getElem? (i := 22) rfl)) (hw _ (List.mem_of_getElem? (i := 24) rfl)) (hw _ (List.mem_of_getElem? (i := 10) rfl)) (hw _ (List.mem_of_getElem? (i := 23) rfl)) (hw _ (List.mem_of_getElem? (i := 11) rfl)) (hw _ (List.mem_of_getElem? (i := 25) rfl)) (by decide) e0 O0 N0 hk13 rfl (as' := [(.int i4), (.int x12)]) (ct5 hw hq13) (W := 0) (kc := 0) (ks := 0) rfl rfl (by decide) (by decide) (g := (mkF m 79 #[.val (.ref (n0 + ob0)), .val (.int i1), .val (.ref (n0 + ob2)), .val (.ref (n0 + ob3)), .val (.int i4)] [(.int x12), (.int i4), (.ref (n0 + ob0))])) rfl (by rw [hml]; rfl) (rest := []) (lenOf pd_0 rfl) rfl (by show 2 * 0 + _ ≤ _; exact Nat.le_of_eq rfl) (hb hby d3_79) (by show _ + 0 ≤ 1; omega) (by show _ + 0 ≤ 8; omega)
      obtain ⟨x15, hx15, hf⟩ := own_bind hf
      obtain ⟨u17, hk16, hf⟩ := own_bind hf
      obtain ⟨D16, hq16, hf⟩ := own_bind hf
      obtain ⟨T16, h16, L16, X16, e16, O16, N16, st16⟩ := callPW X13 hx hZ (y := (⟨"com/example/sondage/sondage/graph/Graph", "checkNode", "(II)V"⟩ : MethodName)) hown (hw _ (List.mem_of_getElem? (i := 22) rfl)) (hw _ (List.mem_of_getElem? (i := 24) rfl)) (hw _ (List.mem_of_getElem? (i := 10) rfl)) (hw _ (List.mem_of_getElem? (i := 23) rfl)) (hw _ (List.mem_of_getElem? (i := 11) rfl)) (hw _ (List.mem_of_getElem? (i := 25) rfl)) (by decide) e13 O13 N13 hk16 rfl (as' := [(.int i4), (.int x15)]) (ct5 hw hq16) (W := 0) (kc := 0) (ks := 0) rfl rfl (by decide) (by decide) (g := (mkF m 89 #[.val (.ref (n0 + ob0)), .val (.int i1), .val (.ref (n0 + ob2)), .val (.ref (n0 + ob3)), .val (.int i4)] [(.int x15), (.int i4), (.ref (n0 + ob0))])) rfl (by rw [hml]; rfl) (rest := []) (lenOf pd_0 rfl) rfl (by show 2 * 0 + _ ≤ _; exact Nat.le_of_eq rfl) (hb hby d3_89) (by show _ + 0 ≤ 1; omega) (by show _ + 0 ≤ 8; omega)
      obtain ⟨x18, hx18, hf⟩ := own_bind hf
      obtain ⟨x19, hx19, hf⟩ := own_bind hf
      refine Gl.on (B := T16.setTop (mkF m 100 #[.val (.ref (n0 + ob0)), .val (.int i1), .val (.ref (n0 + ob2)), .val (.ref (n0 + ob3)), .val (.int i4)] [(.int x19), (.int x18)])) (fun t k => ?_) ?_
      · show Steps p.tables e below (T0.setTop (mkF m 69 #[.val (.ref (n0 + ob0)), .val (.int i1), .val (.ref (n0 + ob2)), .val (.ref (n0 + ob3)), .val (.int i4)] [(.int x10), (.int i4)])) _
        refine XS.icmpNo X0.here hx rfl (hb hby d3_69) rfl (tlt hc11).2.1 ?_
        show Steps p.tables e below (T0.setTop (mkF m 72 #[.val (.ref (n0 + ob0)), .val (.int i1), .val (.ref (n0 + ob2)), .val (.ref (n0 + ob3)), .val (.int i4)] [])) _
        refine XS.aloadN X0.here hx rfl (hb hby d3_72) rfl rfl ?_
        show Steps p.tables e below (T0.setTop (mkF m 73 #[.val (.ref (n0 + ob0)), .val (.int i1), .val (.ref (n0 + ob2)), .val (.ref (n0 + ob3)), .val (.int i4)] [(.ref (n0 + ob0))])) _
        refine XS.iload X0.here hx rfl (hb hby d3_73) rfl ?_
        show Steps p.tables e below (T0.setTop (mkF m 75 #[.val (.ref (n0 + ob0)), .val (.int i1), .val (.ref (n0 + ob2)), .val (.ref (n0 + ob3)), .val (.int i4)] [(.int i4), (.ref (n0 + ob0))])) _
        refine XS.aloadN X0.here hx rfl (hb hby d3_75) rfl rfl ?_
        show Steps p.tables e below (T0.setTop (mkF m 76 #[.val (.ref (n0 + ob0)), .val (.int i1), .val (.ref (n0 + ob2)), .val (.ref (n0 + ob3)), .val (.int i4)] [(.ref (n0 + ob2)), (.int i4), (.ref (n0 + ob0))])) _
        refine XS.iload X0.here hx rfl (hb hby d3_76) rfl ?_
        show Steps p.tables e below (T0.setTop (mkF m 78 #[.val (.ref (n0 + ob0)), .val (.int i1), .val (.ref (n0 + ob2)), .val (.ref (n0 + ob3)), .val (.int i4)] [(.int i4), (.ref (n0 + ob2)), (.int i4), (.ref (n0 + ob0))])) _
        refine ldW X0 hx hZ e0 O0 hx12 rfl (g := (mkF m 78 #[.val (.ref (n0 + ob0)), .val (.int i1), .val (.ref (n0 + ob2)), .val (.ref (n0 + ob3)), .val (.int i4)] [(.int i4), (.ref (n0 + ob2)), (.int i4), (.ref (n0 + ob0))])) rfl rfl (hb hby d3_78) _ ?_
        show Steps p.tables e below (T0.setTop (mkF m 79 #[.val (.ref (n0 + ob0)), .val (.int i1), .val (.ref (n0 + ob2)), .val (.ref (n0 + ob3)), .val (.int i4)] [(.int x12), (.int i4), (.ref (n0 + ob0))])) _
        refine st13 _ ?_
        show Steps p.tables e below (T13.setTop (mkF m 82 #[.val (.ref (n0 + ob0)), .val (.int i1), .val (.ref (n0 + ob2)), .val (.ref (n0 + ob3)), .val (.int i4)] [])) _
        refine XS.aloadN X13.here hx rfl (hb hby d3_82) rfl rfl ?_
        show Steps p.tables e below (T13.setTop (mkF m 83 #[.val (.ref (n0 + ob0)), .val (.int i1), .val (.ref (n0 + ob2)), .val (.ref (n0 + ob3)), .val (.int i4)] [(.ref (n0 + ob0))])) _
        refine XS.iload X13.here hx rfl (hb hby d3_83) rfl ?_
        show Steps p.tables e below (T13.setTop (mkF m 85 #[.val (.ref (n0 + ob0)), .val (.int i1), .val (.ref (n0 + ob2)), .val (.ref (n0 + ob3)), .val (.int i4)] [(.int i4), (.ref (n0 + ob0))])) _
        refine XS.aloadN X13.here hx rfl (hb hby d3_85) rfl rfl ?_
        show Steps p.tables e below (T13.setTop (mkF m 86 #[.val (.ref (n0 + ob0)), .val (.int i1), .val (.ref (n0 + ob2)), .val (.ref (n0 + ob3)), .val (.int i4)] [(.ref (n0 + ob3)), (.int i4), (.ref (n0 + ob0))])) _
        refine XS.iload X13.here hx rfl (hb hby d3_86) rfl ?_
        show Steps p.tables e below (T13.setTop (mkF m 88 #[.val (.ref (n0 + ob0)), .val (.int i1), .val (.ref (n0 + ob2)), .val (.ref (n0 + ob3)), .val (.int i4)] [(.int i4), (.ref (n0 + ob3)), (.int i4), (.ref (n0 + ob0))])) _
        refine ldW X13 hx hZ e13 O13 hx15 rfl (g := (mkF m 88 #[.val (.ref (n0 + ob0)), .val (.int i1), .val (.ref (n0 + ob2)), .val (.ref (n0 + ob3)), .val (.int i4)] [(.int i4), (.ref (n0 + ob3)), (.int i4), (.ref (n0 + ob0))])) rfl rfl (hb hby d3_88) _ ?_
        show Steps p.tables e below (T13.setTop (mkF m 89 #[.val (.ref (n0 + ob0)), .val (.int i1), .val (.ref (n0 + ob2)), .val (.ref (n0 + ob3)), .val (.int i4)] [(.int x15), (.int i4), (.ref (n0 + ob0))])) _
        refine st16 _ ?_
        show Steps p.tables e below (T16.setTop (mkF m 92 #[.val (.ref (n0 + ob0)), .val (.int i1), .val (.ref (n0 + ob2)), .val (.ref (n0 + ob3)), .val (.int i4)] [])) _
        refine XS.aloadN X16.here hx rfl (hb hby d3_92) rfl rfl ?_
        show Steps p.tables e below (T16.setTop (mkF m 93 #[.val (.ref (n0 + ob0)), .val (.int i1), .val (.ref (n0 + ob2)), .val (.ref (n0 + ob3)), .val (.int i4)] [(.ref (n0 + ob2))])) _
        refine XS.iload X16.here hx rfl (hb hby d3_93) rfl ?_
        show Steps p.tables e below (T16.setTop (mkF m 95 #[.val (.ref (n0 + ob0)), .val (.int i1), .val (.ref (n0 + ob2)), .val (.ref (n0 + ob3)), .val (.int i4)] [(.int i4), (.ref (n0 + ob2))])) _
        refine ldW X16 hx hZ e16 O16 hx18 rfl (g := (mkF m 95 #[.val (.ref (n0 + ob0)), .val (.int i1), .val (.ref (n0 + ob2)), .val (.ref (n0 + ob3)), .val (.int i4)] [(.int i4), (.ref (n0 + ob2))])) rfl rfl (hb hby d3_95) _ ?_
        show Steps p.tables e below (T16.setTop (mkF m 96 #[.val (.ref (n0 + ob0)), .val (.int i1), .val (.ref (n0 + ob2)), .val (.ref (n0 + ob3)), .val (.int i4)] [(.int x18)])) _
        refine XS.aloadN X16.here hx rfl (hb hby d3_96) rfl rfl ?_
        show Steps p.tables e below (T16.setTop (mkF m 97 #[.val (.ref (n0 + ob0)), .val (.int i1), .val (.ref (n0 + ob2)), .val (.ref (n0 + ob3)), .val (.int i4)] [(.ref (n0 + ob3)), (.int x18)])) _
        refine XS.iload X16.here hx rfl (hb hby d3_97) rfl ?_
        show Steps p.tables e below (T16.setTop (mkF m 99 #[.val (.ref (n0 + ob0)), .val (.int i1), .val (.ref (n0 + ob2)), .val (.ref (n0 + ob3)), .val (.int i4)] [(.int i4), (.ref (n0 + ob3)), (.int x18)])) _
        refine ldW X16 hx hZ e16 O16 hx19 rfl (g := (mkF m 99 #[.val (.ref (n0 + ob0)), .val (.int i1), .val (.ref (n0 + ob2)), .val (.ref (n0 + ob3)), .val (.int i4)] [(.int i4), (.ref (n0 + ob3)), (.int x18)])) rfl rfl (hb hby d3_99) _ ?_
        exact k
      by_cases hc20 : x18 = x19
      · rw [if_pos hc20] at hf
        cases hf
      · rw [if_neg hc20] at hf
        obtain ⟨x21, hx21, hf⟩ := own_bind hf
        obtain ⟨T22, X22, e22, st22⟩ := getF X16 hx hZ hown (host := "") (Or.inl (hw _ (List.mem_of_getElem? (i := 20) rfl))) Via.refl e16 (O16.fld (gR_e hx21) rfl rfl) (g := (mkF m 123 #[.val (.ref (n0 + ob0)), .val (.int i1), .val (.ref (n0 + ob2)), .val (.ref (n0 + ob3)), .val (.int i4)] [(.ref (n0 + ob0))])) rfl rfl (hb hby d3_123)
        obtain ⟨x23, hx23, hf⟩ := own_bind hf
        obtain ⟨D24, hq24, hf⟩ := own_bind hf
        obtain ⟨T24, h24, L24, X24, e24, O24, N24, st24⟩ := stIW X22 hx hZ e22 O16 N16 hq24 rfl (g := (mkF m 134 #[.val (.ref (n0 + ob0)), .val (.int i1), .val (.ref (n0 + ob2)), .val (.ref (n0 + ob3)), .val (.int i4)] [(.int x23), (.int ((2 : Int32) * i4)), (.ref (n0 + x21))])) rfl rfl (hb hby d3_134)
        obtain ⟨x25, hx25, hf⟩ := own_bind hf
        obtain ⟨T26, X26, e26, st26⟩ := getF X24 hx hZ hown (host := "") (Or.inl (hw _ (List.mem_of_getElem? (i := 20) rfl))) Via.refl e24 (O24.fld (gR_e hx25) rfl rfl) (g := (mkF m 136 #[.val (.ref (n0 + ob0)), .val (.int i1), .val (.ref (n0 + ob2)), .val (.ref (n0 + ob3)), .val (.int i4)] [(.ref (n0 + ob0))])) rfl rfl (hb hby d3_136)
        obtain ⟨x27, hx27, hf⟩ := own_bind hf
        obtain ⟨D28, hq28, hf⟩ := own_bind hf
        obtain ⟨T28, h28, L28, X28, e28, O28, N28, st28⟩ := stIW X26 hx hZ e26 O24 N24 hq28 rfl (g := (mkF m 149 #[.val (.ref (n0 + ob0)), .val (.int i1), .val (.ref (n0 + ob2)), .val (.ref (n0 + ob3)), .val (.int i4)] [(.int x27), (.int (((2 : Int32) * i4) + (1 : Int32))), (.ref (n0 + x25))])) rfl rfl (hb hby d3_149)
        refine Gl.on (B := T28.setTop (mkF m 65 #[.val (.ref (n0 + ob0)), .val (.int i1), .val (.ref (n0 + ob2)), .val (.ref (n0 + ob3)), .val (.int (i4 + (1 : Int32)))] [])) (fun t k => ?_) ?_
        · show Steps p.tables e below (T16.setTop (mkF m 100 #[.val (.ref (n0 + ob0)), .val (.int i1), .val (.ref (n0 + ob2)), .val (.ref (n0 + ob3)), .val (.int i4)] [(.int x19), (.int x18)])) _
          refine XS.icmpYes X16.here hx rfl (pc0 := 100) (pc' := 122) rfl (hb hby d3_100) rfl (feq hc20).2 (by decide) (by decide) ?_
          show Steps p.tables e below (T16.setTop (mkF m 122 #[.val (.ref (n0 + ob0)), .val (.int i1), .val (.ref (n0 + ob2)), .val (.ref (n0 + ob3)), .val (.int i4)] [])) _
          refine XS.aloadN X16.here hx rfl (hb hby d3_122) rfl rfl ?_
          show Steps p.tables e below (T16.setTop (mkF m 123 #[.val (.ref (n0 + ob0)), .val (.int i1), .val (.ref (n0 + ob2)), .val (.ref (n0 + ob3)), .val (.int i4)] [(.ref (n0 + ob0))])) _
          refine st22 _ ?_
          show Steps p.tables e below (T22.setTop (mkF m 126 #[.val (.ref (n0 + ob0)), .val (.int i1), .val (.ref (n0 + ob2)), .val (.ref (n0 + ob3)), .val (.int i4)] [(.ref (n0 + x21))])) _
          refine XS.iconst X22.here hx rfl (hb hby d3_126) ?_
          show Steps p.tables e below (T22.setTop (mkF m 127 #[.val (.ref (n0 + ob0)), .val (.int i1), .val (.ref (n0 + ob2)), .val (.ref (n0 + ob3)), .val (.int i4)] [(.int (2 : Int32)), (.ref (n0 + x21))])) _
          refine XS.iload X22.here hx rfl (hb hby d3_127) rfl ?_
          show Steps p.tables e below (T22.setTop (mkF m 129 #[.val (.ref (n0 + ob0)), .val (.int i1), .val (.ref (n0 + ob2)), .val (.ref (n0 + ob3)), .val (.int i4)] [(.int i4), (.int (2 : Int32)), (.ref (n0 + x21))])) _
          refine XS.imul X22.here hx rfl (hb hby d3_129) rfl ?_
          show Steps p.tables e below (T22.setTop (mkF m 130 #[.val (.ref (n0 + ob0)), .val (.int i1), .val (.ref (n0 + ob2)), .val (.ref (n0 + ob3)), .val (.int i4)] [(.int ((2 : Int32) * i4)), (.ref (n0 + x21))])) _
          refine XS.aloadN X22.here hx rfl (hb hby d3_130) rfl rfl ?_
          show Steps p.tables e below (T22.setTop (mkF m 131 #[.val (.ref (n0 + ob0)), .val (.int i1), .val (.ref (n0 + ob2)), .val (.ref (n0 + ob3)), .val (.int i4)] [(.ref (n0 + ob2)), (.int ((2 : Int32) * i4)), (.ref (n0 + x21))])) _
          refine XS.iload X22.here hx rfl (hb hby d3_131) rfl ?_
          show Steps p.tables e below (T22.setTop (mkF m 133 #[.val (.ref (n0 + ob0)), .val (.int i1), .val (.ref (n0 + ob2)), .val (.ref (n0 + ob3)), .val (.int i4)] [(.int i4), (.ref (n0 + ob2)), (.int ((2 : Int32) * i4)), (.ref (n0 + x21))])) _
          refine ldW X22 hx hZ e22 O16 hx23 rfl (g := (mkF m 133 #[.val (.ref (n0 + ob0)), .val (.int i1), .val (.ref (n0 + ob2)), .val (.ref (n0 + ob3)), .val (.int i4)] [(.int i4), (.ref (n0 + ob2)), (.int ((2 : Int32) * i4)), (.ref (n0 + x21))])) rfl rfl (hb hby d3_133) _ ?_
          show Steps p.tables e below (T22.setTop (mkF m 134 #[.val (.ref (n0 + ob0)), .val (.int i1), .val (.ref (n0 + ob2)), .val (.ref (n0 + ob3)), .val (.int i4)] [(.int x23), (.int ((2 : Int32) * i4)), (.ref (n0 + x21))])) _
          refine st24 _ ?_
          show Steps p.tables e below (T24.setTop (mkF m 135 #[.val (.ref (n0 + ob0)), .val (.int i1), .val (.ref (n0 + ob2)), .val (.ref (n0 + ob3)), .val (.int i4)] [])) _
          refine XS.aloadN X24.here hx rfl (hb hby d3_135) rfl rfl ?_
          show Steps p.tables e below (T24.setTop (mkF m 136 #[.val (.ref (n0 + ob0)), .val (.int i1), .val (.ref (n0 + ob2)), .val (.ref (n0 + ob3)), .val (.int i4)] [(.ref (n0 + ob0))])) _
          refine st26 _ ?_
          show Steps p.tables e below (T26.setTop (mkF m 139 #[.val (.ref (n0 + ob0)), .val (.int i1), .val (.ref (n0 + ob2)), .val (.ref (n0 + ob3)), .val (.int i4)] [(.ref (n0 + x25))])) _
          refine XS.iconst X26.here hx rfl (hb hby d3_139) ?_
          show Steps p.tables e below (T26.setTop (mkF m 140 #[.val (.ref (n0 + ob0)), .val (.int i1), .val (.ref (n0 + ob2)), .val (.ref (n0 + ob3)), .val (.int i4)] [(.int (2 : Int32)), (.ref (n0 + x25))])) _
          refine XS.iload X26.here hx rfl (hb hby d3_140) rfl ?_
          show Steps p.tables e below (T26.setTop (mkF m 142 #[.val (.ref (n0 + ob0)), .val (.int i1), .val (.ref (n0 + ob2)), .val (.ref (n0 + ob3)), .val (.int i4)] [(.int i4), (.int (2 : Int32)), (.ref (n0 + x25))])) _
          refine XS.imul X26.here hx rfl (hb hby d3_142) rfl ?_
          show Steps p.tables e below (T26.setTop (mkF m 143 #[.val (.ref (n0 + ob0)), .val (.int i1), .val (.ref (n0 + ob2)), .val (.ref (n0 + ob3)), .val (.int i4)] [(.int ((2 : Int32) * i4)), (.ref (n0 + x25))])) _
          refine XS.iconst X26.here hx rfl (hb hby d3_143) ?_
          show Steps p.tables e below (T26.setTop (mkF m 144 #[.val (.ref (n0 + ob0)), .val (.int i1), .val (.ref (n0 + ob2)), .val (.ref (n0 + ob3)), .val (.int i4)] [(.int (1 : Int32)), (.int ((2 : Int32) * i4)), (.ref (n0 + x25))])) _
          refine XS.iadd X26.here hx rfl (hb hby d3_144) rfl ?_
          show Steps p.tables e below (T26.setTop (mkF m 145 #[.val (.ref (n0 + ob0)), .val (.int i1), .val (.ref (n0 + ob2)), .val (.ref (n0 + ob3)), .val (.int i4)] [(.int (((2 : Int32) * i4) + (1 : Int32))), (.ref (n0 + x25))])) _
          refine XS.aloadN X26.here hx rfl (hb hby d3_145) rfl rfl ?_
          show Steps p.tables e below (T26.setTop (mkF m 146 #[.val (.ref (n0 + ob0)), .val (.int i1), .val (.ref (n0 + ob2)), .val (.ref (n0 + ob3)), .val (.int i4)] [(.ref (n0 + ob3)), (.int (((2 : Int32) * i4) + (1 : Int32))), (.ref (n0 + x25))])) _
          refine XS.iload X26.here hx rfl (hb hby d3_146) rfl ?_
          show Steps p.tables e below (T26.setTop (mkF m 148 #[.val (.ref (n0 + ob0)), .val (.int i1), .val (.ref (n0 + ob2)), .val (.ref (n0 + ob3)), .val (.int i4)] [(.int i4), (.ref (n0 + ob3)), (.int (((2 : Int32) * i4) + (1 : Int32))), (.ref (n0 + x25))])) _
          refine ldW X26 hx hZ e26 O24 hx27 rfl (g := (mkF m 148 #[.val (.ref (n0 + ob0)), .val (.int i1), .val (.ref (n0 + ob2)), .val (.ref (n0 + ob3)), .val (.int i4)] [(.int i4), (.ref (n0 + ob3)), (.int (((2 : Int32) * i4) + (1 : Int32))), (.ref (n0 + x25))])) rfl rfl (hb hby d3_148) _ ?_
          show Steps p.tables e below (T26.setTop (mkF m 149 #[.val (.ref (n0 + ob0)), .val (.int i1), .val (.ref (n0 + ob2)), .val (.ref (n0 + ob3)), .val (.int i4)] [(.int x27), (.int (((2 : Int32) * i4) + (1 : Int32))), (.ref (n0 + x25))])) _
          refine st28 _ ?_
          show Steps p.tables e below (T28.setTop (mkF m 150 #[.val (.ref (n0 + ob0)), .val (.int i1), .val (.ref (n0 + ob2)), .val (.ref (n0 + ob3)), .val (.int i4)] [])) _
          refine XS.iinc X28.here hx rfl (hb hby d3_150) rfl (l' := #[.val (.ref (n0 + ob0)), .val (.int i1), .val (.ref (n0 + ob2)), .val (.ref (n0 + ob3)), .val (.int (i4 + (1 : Int32)))]) rfl ?_
          show Steps p.tables e below (T28.setTop (mkF m 153 #[.val (.ref (n0 + ob0)), .val (.int i1), .val (.ref (n0 + ob2)), .val (.ref (n0 + ob3)), .val (.int (i4 + (1 : Int32)))] [])) _
          refine XS.goto X28.here hx rfl (pc0 := 153) (pc' := 65) rfl (hb hby d3_153) (by decide) (by decide) ?_
          exact k
        exact ih X28 e28 O28 N28 (by omega) (by omega) hf
    · rw [if_neg hc11] at hf
      refine Gl.on (B := T0.setTop (mkF m 156 #[.val (.ref (n0 + ob0)), .val (.int i1), .val (.ref (n0 + ob2)), .val (.ref (n0 + ob3)), .val (.int i4)] [])) (fun t k => ?_) ?_
      · show Steps p.tables e below (T0.setTop (mkF m 69 #[.val (.ref (n0 + ob0)), .val (.int i1), .val (.ref (n0 + ob2)), .val (.ref (n0 + ob3)), .val (.int i4)] [(.int x10), (.int i4)])) _
        refine XS.icmpYes X0.here hx rfl (pc0 := 69) (pc' := 156) rfl (hb hby d3_69) rfl (flt hc11).2.1 (by decide) (by decide) ?_
        exact k
      obtain rfl := own_inj1 hf
      exact Gl.outV X0 hx hlk hret (hb hby d3_156) ⟨rfl, N0, by rw [e0]; exact O0⟩ (by show _ ≤ 1; omega) (by show _ ≤ 8; omega)
def f3 (D : Hp) (ob0 : Nat) (i1 : Int32) (ob2 : Nat) (ob3 : Nat) : Option (Hp) :=
  if i1 < (1 : Int32) then (none) else ((lA D ob2 0).bind fun x3 =>
  (lA D ob3 0).bind fun x4 =>
  if x3 = x4 then ((pV D ob0 1 0 (.int i1)).bind fun D6 =>
  (lA D6 ob2 0).bind fun x7 =>
  own_let (D6.length) fun a8 => (nA D6 0 ((2 : Int32) * x7) 8 (.int (0 : Int32))).bind fun D8 =>
  (pV D8 ob0 1 1 (.ref a8)).bind fun D9 =>
  b3_65 12 D9 ob0 ob2 ob3 (0 : Int32)) else (none))
theorem ef_3 (m : MethodId) (n0 : Nat) (ob0 : Nat) (i1 : Int32) (ob2 : Nat) (ob3 : Nat) : entryFrame m #[(.ref (n0 + ob0)), (.int i1), (.ref (n0 + ob2)), (.ref (n0 + ob3))] 5 = mkF m 0 #[.val (.ref (n0 + ob0)), .val (.int i1), .val (.ref (n0 + ob2)), .val (.ref (n0 + ob3)), .unset] [] := by first | (simp [entryFrame, mkF, argsToLocals, Value.category]; done) | rfl
set_option maxRecDepth 65536 in
set_option maxHeartbeats 40000000 in
theorem ct3 {l : Launch} {Z : State} {a0 : Array Value} (hw : ∀ d ∈ tables_1, d.before a0 Z = true) {n0 : Nat} {D D' : Hp} {ob0 : Nat} {i1 : Int32} {ob2 : Nat} {ob3 : Nat} (hf : f3 D ob0 i1 ob2 ob3 = some D') :
    Ct Kt1 l Z (⟨"com/example/sondage/sondage/graph/Graph", "<init>", "(I[I[I)V"⟩ : MethodName) (.code (⟨"com/example/sondage/sondage/graph/Graph", "<init>", "(I[I[I)V"⟩ : MethodName) prog_29_method_1_code 5 none) ({ frames := 1, cells := 1, slots := 8, locals := 14 } : Room) n0 D #[(.ref (n0 + ob0)), (.int i1), (.ref (n0 + ob2)), (.ref (n0 + ob3))] none D' := by
  refine Ct.of (plainFor_of_name pn_3) ?_
  intro p e s m below meth c T0 h0 hC X0 e0 O0
  obtain ⟨hx, hZ, hby, hml, hown, hnm, hret, hlk⟩ := id hC
  have hml : c.maxLocals = 5 := hml
  have hown : s.vm.findClass "com/example/sondage/sondage/graph/Graph" = some m.cls := hown
  have hnm : meth.name = "<init>" := hnm
  have N0 := Fr.nil n0
  refine Gl.on (fun t k => castTop (ef_3 m n0 ob0 i1 ob2 ob3) k) ?_
  rw [f3] at hf
  obtain ⟨T1, X1, e1, st1⟩ := initO X0 hx hZ hown (hw _ (List.mem_of_getElem? (i := 15) rfl)) (hw _ (List.mem_of_getElem? (i := 16) rfl)) (hw _ (List.mem_of_getElem? (i := 17) rfl)) e0 (g := (mkF m 1 #[.val (.ref (n0 + ob0)), .val (.int i1), .val (.ref (n0 + ob2)), .val (.ref (n0 + ob3)), .unset] [(.ref (n0 + ob0))])) rfl (by rw [hml]; rfl) rfl (hb hby d3_1) (by decide) (W := 0) (by show 2 * 0 + _ ≤ _; exact Nat.le_of_eq rfl) (by decide)
  refine Gl.on (B := T1.setTop (mkF m 6 #[.val (.ref (n0 + ob0)), .val (.int i1), .val (.ref (n0 + ob2)), .val (.ref (n0 + ob3)), .unset] [(.int (1 : Int32)), (.int i1)])) (fun t k => ?_) ?_
  · show Steps p.tables e below (T0.setTop (mkF m 0 #[.val (.ref (n0 + ob0)), .val (.int i1), .val (.ref (n0 + ob2)), .val (.ref (n0 + ob3)), .unset] [])) _
    refine XS.aloadN X0.here hx rfl (hb hby d3_0) rfl rfl ?_
    show Steps p.tables e below (T0.setTop (mkF m 1 #[.val (.ref (n0 + ob0)), .val (.int i1), .val (.ref (n0 + ob2)), .val (.ref (n0 + ob3)), .unset] [(.ref (n0 + ob0))])) _
    refine st1 _ ?_
    show Steps p.tables e below (T1.setTop (mkF m 4 #[.val (.ref (n0 + ob0)), .val (.int i1), .val (.ref (n0 + ob2)), .val (.ref (n0 + ob3)), .unset] [])) _
    refine XS.iloadN X1.here hx rfl (hb hby d3_4) rfl ?_
    show Steps p.tables e below (T1.setTop (mkF m 5 #[.val (.ref (n0 + ob0)), .val (.int i1), .val (.ref (n0 + ob2)), .val (.ref (n0 + ob3)), .unset] [(.int i1)])) _
    refine XS.iconst X1.here hx rfl (hb hby d3_5) ?_
    exact k
  by_cases hc2 : i1 < (1 : Int32)
  · rw [if_pos hc2] at hf
    cases hf
  · rw [if_neg hc2] at hf
    obtain ⟨x3, hx3, hf⟩ := own_bind hf
    obtain ⟨x4, hx4, hf⟩ := own_bind hf
    refine Gl.on (B := T1.setTop (mkF m 27 #[.val (.ref (n0 + ob0)), .val (.int i1), .val (.ref (n0 + ob2)), .val (.ref (n0 + ob3)), .unset] [(.int x4), (.int x3)])) (fun t k => ?_) ?_
    · show Steps p.tables e below (T1.setTop (mkF m 6 #[.val (.ref (n0 + ob0)), .val (.int i1), .val (.ref (n0 + ob2)), .val (.ref (n0 + ob3)), .unset] [(.int (1 : Int32)), (.int i1)])) _
      refine XS.icmpYes X1.here hx rfl (pc0 := 6) (pc' := 23) rfl (hb hby d3_6) rfl (flt hc2).2.1 (by decide) (by decide) ?_
      show Steps p.tables e below (T1.setTop (mkF m 23 #[.val (.ref (n0 + ob0)), .val (.int i1), .val (.ref (n0 + ob2)), .val (.ref (n0 + ob3)), .unset] [])) _
      refine XS.aloadN X1.here hx rfl (hb hby d3_23) rfl rfl ?_
      show Steps p.tables e below (T1.setTop (mkF m 24 #[.val (.ref (n0 + ob0)), .val (.int i1), .val (.ref (n0 + ob2)), .val (.ref (n0 + ob3)), .unset] [(.ref (n0 + ob2))])) _
      refine lenW' X1 hx hZ e1 O0 hx3 (ty := .int) rfl (g := (mkF m 24 #[.val (.ref (n0 + ob0)), .val (.int i1), .val (.ref (n0 + ob2)), .val (.ref (n0 + ob3)), .unset] [(.ref (n0 + ob2))])) rfl rfl (hb hby d3_24) _ ?_
      show Steps p.tables e below (T1.setTop (mkF m 25 #[.val (.ref (n0 + ob0)), .val (.int i1), .val (.ref (n0 + ob2)), .val (.ref (n0 + ob3)), .unset] [(.int x3)])) _
      refine XS.aloadN X1.here hx rfl (hb hby d3_25) rfl rfl ?_
      show Steps p.tables e below (T1.setTop (mkF m 26 #[.val (.ref (n0 + ob0)), .val (.int i1), .val (.ref (n0 + ob2)), .val (.ref (n0 + ob3)), .unset] [(.ref (n0 + ob3)), (.int x3)])) _
      refine lenW' X1 hx hZ e1 O0 hx4 (ty := .int) rfl (g := (mkF m 26 #[.val (.ref (n0 + ob0)), .val (.int i1), .val (.ref (n0 + ob2)), .val (.ref (n0 + ob3)), .unset] [(.ref (n0 + ob3)), (.int x3)])) rfl rfl (hb hby d3_26) _ ?_
      exact k
    by_cases hc5 : x3 = x4
    · rw [if_pos hc5] at hf
      obtain ⟨D6, hq6, hf⟩ := own_bind hf
      obtain ⟨T6, h6, L6, X6, e6, O6, N6, st6⟩ := putW X1 hx hZ hown (hw _ (List.mem_of_getElem? (i := 18) rfl)) (lay1 hw) e1 O0 N0 hq6 rfl rfl (Or.inr ⟨(hw _ (List.mem_of_getElem? (i := 19) rfl)), rfl, hnm⟩) (hw _ (List.mem_of_getElem? (i := 10) rfl)) (ty := .int) (by decide) rfl rfl (g := (mkF m 49 #[.val (.ref (n0 + ob0)), .val (.int i1), .val (.ref (n0 + ob2)), .val (.ref (n0 + ob3)), .unset] [(.int i1), (.ref (n0 + ob0))])) rfl rfl (hb hby d3_49)
      obtain ⟨x7, hx7, hf⟩ := own_bind hf
      obtain ⟨a8, ha8, hf⟩ := own_letE hf
      obtain ⟨D8, hD8, hf⟩ := own_bind hf
      obtain ⟨T8, h8, X8, e8, O8, st8⟩ := newAW X6 hx hZ (aty := .int) (hw _ (List.mem_of_getElem? (i := 8) rfl)) e6 O6 rfl rfl hD8 (g := (mkF m 57 #[.val (.ref (n0 + ob0)), .val (.int i1), .val (.ref (n0 + ob2)), .val (.ref (n0 + ob3)), .unset] [(.int ((2 : Int32) * x7)), (.ref (n0 + ob0))])) rfl (hb hby d3_57) rfl (by decide) (by show _ + 1 ≤ 1; omega) (by show _ + 8 ≤ 8; omega)
      rw [ha8] at st8
      obtain ⟨D9, hq9, hf⟩ := own_bind hf
      obtain ⟨T9, h9, L9, X9, e9, O9, N9, st9⟩ := putW X8 hx hZ hown (hw _ (List.mem_of_getElem? (i := 20) rfl)) (lay1 hw) e8 O8 N6 hq9 rfl rfl (Or.inr ⟨(hw _ (List.mem_of_getElem? (i := 21) rfl)), rfl, hnm⟩) (hw _ (List.mem_of_getElem? (i := 10) rfl)) (ty := (.array .int)) (by decide) rfl rfl (g := (mkF m 59 #[.val (.ref (n0 + ob0)), .val (.int i1), .val (.ref (n0 + ob2)), .val (.ref (n0 + ob3)), .unset] [(.ref (n0 + a8)), (.ref (n0 + ob0))])) rfl rfl (hb hby d3_59)
      refine Gl.on (B := T9.setTop (mkF m 65 #[.val (.ref (n0 + ob0)), .val (.int i1), .val (.ref (n0 + ob2)), .val (.ref (n0 + ob3)), .val (.int (0 : Int32))] [])) (fun t k => ?_) ?_
      · show Steps p.tables e below (T1.setTop (mkF m 27 #[.val (.ref (n0 + ob0)), .val (.int i1), .val (.ref (n0 + ob2)), .val (.ref (n0 + ob3)), .unset] [(.int x4), (.int x3)])) _
        refine XS.icmpYes X1.here hx rfl (pc0 := 27) (pc' := 47) rfl (hb hby d3_27) rfl (teq hc5).1 (by decide) (by decide) ?_
        show Steps p.tables e below (T1.setTop (mkF m 47 #[.val (.ref (n0 + ob0)), .val (.int i1), .val (.ref (n0 + ob2)), .val (.ref (n0 + ob3)), .unset] [])) _
        refine XS.aloadN X1.here hx rfl (hb hby d3_47) rfl rfl ?_
        show Steps p.tables e below (T1.setTop (mkF m 48 #[.val (.ref (n0 + ob0)), .val (.int i1), .val (.ref (n0 + ob2)), .val (.ref (n0 + ob3)), .unset] [(.ref (n0 + ob0))])) _
        refine XS.iloadN X1.here hx rfl (hb hby d3_48) rfl ?_
        show Steps p.tables e below (T1.setTop (mkF m 49 #[.val (.ref (n0 + ob0)), .val (.int i1), .val (.ref (n0 + ob2)), .val (.ref (n0 + ob3)), .unset] [(.int i1), (.ref (n0 + ob0))])) _
        refine st6 _ ?_
        show Steps p.tables e below (T6.setTop (mkF m 52 #[.val (.ref (n0 + ob0)), .val (.int i1), .val (.ref (n0 + ob2)), .val (.ref (n0 + ob3)), .unset] [])) _
        refine XS.aloadN X6.here hx rfl (hb hby d3_52) rfl rfl ?_
        show Steps p.tables e below (T6.setTop (mkF m 53 #[.val (.ref (n0 + ob0)), .val (.int i1), .val (.ref (n0 + ob2)), .val (.ref (n0 + ob3)), .unset] [(.ref (n0 + ob0))])) _
        refine XS.iconst X6.here hx rfl (hb hby d3_53) ?_
        show Steps p.tables e below (T6.setTop (mkF m 54 #[.val (.ref (n0 + ob0)), .val (.int i1), .val (.ref (n0 + ob2)), .val (.ref (n0 + ob3)), .unset] [(.int (2 : Int32)), (.ref (n0 + ob0))])) _
        refine XS.aloadN X6.here hx rfl (hb hby d3_54) rfl rfl ?_
        show Steps p.tables e below (T6.setTop (mkF m 55 #[.val (.ref (n0 + ob0)), .val (.int i1), .val (.ref (n0 + ob2)), .val (.ref (n0 + ob3)), .unset] [(.ref (n0 + ob2)), (.int (2 : Int32)), (.ref (n0 + ob0))])) _
        refine lenW' X6 hx hZ e6 O6 hx7 (ty := .int) rfl (g := (mkF m 55 #[.val (.ref (n0 + ob0)), .val (.int i1), .val (.ref (n0 + ob2)), .val (.ref (n0 + ob3)), .unset] [(.ref (n0 + ob2)), (.int (2 : Int32)), (.ref (n0 + ob0))])) rfl rfl (hb hby d3_55) _ ?_
        show Steps p.tables e below (T6.setTop (mkF m 56 #[.val (.ref (n0 + ob0)), .val (.int i1), .val (.ref (n0 + ob2)), .val (.ref (n0 + ob3)), .unset] [(.int x7), (.int (2 : Int32)), (.ref (n0 + ob0))])) _
        refine XS.imul X6.here hx rfl (hb hby d3_56) rfl ?_
        show Steps p.tables e below (T6.setTop (mkF m 57 #[.val (.ref (n0 + ob0)), .val (.int i1), .val (.ref (n0 + ob2)), .val (.ref (n0 + ob3)), .unset] [(.int ((2 : Int32) * x7)), (.ref (n0 + ob0))])) _
        refine st8 _ ?_
        show Steps p.tables e below (T8.setTop (mkF m 59 #[.val (.ref (n0 + ob0)), .val (.int i1), .val (.ref (n0 + ob2)), .val (.ref (n0 + ob3)), .unset] [(.ref (n0 + a8)), (.ref (n0 + ob0))])) _
        refine st9 _ ?_
        show Steps p.tables e below (T9.setTop (mkF m 62 #[.val (.ref (n0 + ob0)), .val (.int i1), .val (.ref (n0 + ob2)), .val (.ref (n0 + ob3)), .unset] [])) _
        refine XS.iconst X9.here hx rfl (hb hby d3_62) ?_
        show Steps p.tables e below (T9.setTop (mkF m 63 #[.val (.ref (n0 + ob0)), .val (.int i1), .val (.ref (n0 + ob2)), .val (.ref (n0 + ob3)), .unset] [(.int (0 : Int32))])) _
        refine XS.istore X9.here hx rfl (hb hby d3_63) rfl (l' := #[.val (.ref (n0 + ob0)), .val (.int i1), .val (.ref (n0 + ob2)), .val (.ref (n0 + ob3)), .val (.int (0 : Int32))]) rfl ?_
        exact k
      exact bt3_65 hw hC 12 X9 e9 O9 N9 (by omega) (by omega) hf
    · rw [if_neg hc5] at hf
      cases hf
theorem d6_0 : decode prog_29_method_7_code 0 = .ok (.aload_n 0, 1) := by decide +kernel
theorem d6_1 : decode prog_29_method_7_code 1 = .ok (.getfield 25, 3) := by decide +kernel
theorem d6_4 : decode prog_29_method_7_code 4 = .ok (.iconst 2, 1) := by decide +kernel
theorem d6_5 : decode prog_29_method_7_code 5 = .ok (.iload_n 1, 1) := by decide +kernel
theorem d6_6 : decode prog_29_method_7_code 6 = .ok (.imul, 1) := by decide +kernel
theorem d6_7 : decode prog_29_method_7_code 7 = .ok (.iaload, 1) := by decide +kernel
theorem d6_8 : decode prog_29_method_7_code 8 = .ok (.iload_n 2, 1) := by decide +kernel
theorem d6_9 : decode prog_29_method_7_code 9 = .ok (.if_icmp .ne 16, 3) := by decide +kernel
theorem d6_12 : decode prog_29_method_7_code 12 = .ok (.aload_n 0, 1) := by decide +kernel
theorem d6_13 : decode prog_29_method_7_code 13 = .ok (.getfield 25, 3) := by decide +kernel
theorem d6_16 : decode prog_29_method_7_code 16 = .ok (.iconst 2, 1) := by decide +kernel
theorem d6_17 : decode prog_29_method_7_code 17 = .ok (.iload_n 1, 1) := by decide +kernel
theorem d6_18 : decode prog_29_method_7_code 18 = .ok (.imul, 1) := by decide +kernel
theorem d6_19 : decode prog_29_method_7_code 19 = .ok (.iconst 1, 1) := by decide +kernel
theorem d6_20 : decode prog_29_method_7_code 20 = .ok (.iadd, 1) := by decide +kernel
theorem d6_21 : decode prog_29_method_7_code 21 = .ok (.iaload, 1) := by decide +kernel
theorem d6_22 : decode prog_29_method_7_code 22 = .ok (.goto 11, 3) := by decide +kernel
theorem d6_25 : decode prog_29_method_7_code 25 = .ok (.aload_n 0, 1) := by decide +kernel
theorem d6_26 : decode prog_29_method_7_code 26 = .ok (.getfield 25, 3) := by decide +kernel
theorem d6_29 : decode prog_29_method_7_code 29 = .ok (.iconst 2, 1) := by decide +kernel
theorem d6_30 : decode prog_29_method_7_code 30 = .ok (.iload_n 1, 1) := by decide +kernel
theorem d6_31 : decode prog_29_method_7_code 31 = .ok (.imul, 1) := by decide +kernel
theorem d6_32 : decode prog_29_method_7_code 32 = .ok (.iaload, 1) := by decide +kernel
theorem d6_33 : decode prog_29_method_7_code 33 = .ok (.ireturn, 1) := by decide +kernel
theorem pn_6 : plainName "com/example/sondage/sondage/graph/Graph" = true := by first | (simp [plainName, overriddenIn]; done) | decide +kernel
def f6 (D : Hp) (ob0 : Nat) (i1 : Int32) (i2 : Int32) : Option (Int32 × Hp) :=
  (gR D ob0 1 1).bind fun x1 =>
  (rI D x1 0 ((2 : Int32) * i1)).bind fun x3 =>
  if x3 = i2 then ((gR D ob0 1 1).bind fun x5 =>
  (rI D x5 0 (((2 : Int32) * i1) + (1 : Int32))).bind fun x7 =>
  some (x7, D)) else ((gR D ob0 1 1).bind fun x8 =>
  (rI D x8 0 ((2 : Int32) * i1)).bind fun x10 =>
  some (x10, D))
theorem ef_6 (m : MethodId) (n0 : Nat) (ob0 : Nat) (i1 : Int32) (i2 : Int32) : entryFrame m #[(.ref (n0 + ob0)), (.int i1), (.int i2)] 3 = mkF m 0 #[.val (.ref (n0 + ob0)), .val (.int i1), .val (.int i2)] [] := by first | (simp [entryFrame, mkF, argsToLocals, Value.category]; done) | rfl
set_option maxRecDepth 65536 in
set_option maxHeartbeats 40000000 in
theorem ct6 {l : Launch} {Z : State} {a0 : Array Value} (hw : ∀ d ∈ tables_1, d.before a0 Z = true) {n0 : Nat} {D D' : Hp} {ob0 : Nat} {i1 : Int32} {i2 : Int32} {r : Int32} (hf : f6 D ob0 i1 i2 = some (r, D')) :
    Ct Kt1 l Z (⟨"com/example/sondage/sondage/graph/Graph", "opposite", "(II)I"⟩ : MethodName) (.code (⟨"com/example/sondage/sondage/graph/Graph", "opposite", "(II)I"⟩ : MethodName) prog_29_method_7_code 3 (some .int)) ({ frames := 0, cells := 0, slots := 0, locals := 0 } : Room) n0 D #[(.ref (n0 + ob0)), (.int i1), (.int i2)] (some (.int r)) D' := by
  refine Ct.of (plainFor_of_name pn_6) ?_
  intro p e s m below meth c T0 h0 hC X0 e0 O0
  obtain ⟨hx, hZ, hby, hml, hown, hnm, hret, hlk⟩ := id hC
  have hml : c.maxLocals = 3 := hml
  have hown : s.vm.findClass "com/example/sondage/sondage/graph/Graph" = some m.cls := hown
  have hnm : meth.name = "opposite" := hnm
  have N0 := Fr.nil n0
  refine Gl.on (fun t k => castTop (ef_6 m n0 ob0 i1 i2) k) ?_
  rw [f6] at hf
  obtain ⟨x1, hx1, hf⟩ := own_bind hf
  obtain ⟨T2, X2, e2, st2⟩ := getF X0 hx hZ hown (host := "") (Or.inl (hw _ (List.mem_of_getElem? (i := 20) rfl))) Via.refl e0 (O0.fld (gR_e hx1) rfl rfl) (g := (mkF m 1 #[.val (.ref (n0 + ob0)), .val (.int i1), .val (.int i2)] [(.ref (n0 + ob0))])) rfl rfl (hb hby d6_1)
  obtain ⟨x3, hx3, hf⟩ := own_bind hf
  refine Gl.on (B := T2.setTop (mkF m 9 #[.val (.ref (n0 + ob0)), .val (.int i1), .val (.int i2)] [(.int i2), (.int x3)])) (fun t k => ?_) ?_
  · show Steps p.tables e below (T0.setTop (mkF m 0 #[.val (.ref (n0 + ob0)), .val (.int i1), .val (.int i2)] [])) _
    refine XS.aloadN X0.here hx rfl (hb hby d6_0) rfl rfl ?_
    show Steps p.tables e below (T0.setTop (mkF m 1 #[.val (.ref (n0 + ob0)), .val (.int i1), .val (.int i2)] [(.ref (n0 + ob0))])) _
    refine st2 _ ?_
    show Steps p.tables e below (T2.setTop (mkF m 4 #[.val (.ref (n0 + ob0)), .val (.int i1), .val (.int i2)] [(.ref (n0 + x1))])) _
    refine XS.iconst X2.here hx rfl (hb hby d6_4) ?_
    show Steps p.tables e below (T2.setTop (mkF m 5 #[.val (.ref (n0 + ob0)), .val (.int i1), .val (.int i2)] [(.int (2 : Int32)), (.ref (n0 + x1))])) _
    refine XS.iloadN X2.here hx rfl (hb hby d6_5) rfl ?_
    show Steps p.tables e below (T2.setTop (mkF m 6 #[.val (.ref (n0 + ob0)), .val (.int i1), .val (.int i2)] [(.int i1), (.int (2 : Int32)), (.ref (n0 + x1))])) _
    refine XS.imul X2.here hx rfl (hb hby d6_6) rfl ?_
    show Steps p.tables e below (T2.setTop (mkF m 7 #[.val (.ref (n0 + ob0)), .val (.int i1), .val (.int i2)] [(.int ((2 : Int32) * i1)), (.ref (n0 + x1))])) _
    refine ldW X2 hx hZ e2 O0 hx3 rfl (g := (mkF m 7 #[.val (.ref (n0 + ob0)), .val (.int i1), .val (.int i2)] [(.int ((2 : Int32) * i1)), (.ref (n0 + x1))])) rfl rfl (hb hby d6_7) _ ?_
    show Steps p.tables e below (T2.setTop (mkF m 8 #[.val (.ref (n0 + ob0)), .val (.int i1), .val (.int i2)] [(.int x3)])) _
    refine XS.iloadN X2.here hx rfl (hb hby d6_8) rfl ?_
    exact k
  by_cases hc4 : x3 = i2
  · rw [if_pos hc4] at hf
    obtain ⟨x5, hx5, hf⟩ := own_bind hf
    obtain ⟨T6, X6, e6, st6⟩ := getF X2 hx hZ hown (host := "") (Or.inl (hw _ (List.mem_of_getElem? (i := 20) rfl))) Via.refl e2 (O0.fld (gR_e hx5) rfl rfl) (g := (mkF m 13 #[.val (.ref (n0 + ob0)), .val (.int i1), .val (.int i2)] [(.ref (n0 + ob0))])) rfl rfl (hb hby d6_13)
    obtain ⟨x7, hx7, hf⟩ := own_bind hf
    refine Gl.on (B := T6.setTop (mkF m 33 #[.val (.ref (n0 + ob0)), .val (.int i1), .val (.int i2)] [(.int x7)])) (fun t k => ?_) ?_
    · show Steps p.tables e below (T2.setTop (mkF m 9 #[.val (.ref (n0 + ob0)), .val (.int i1), .val (.int i2)] [(.int i2), (.int x3)])) _
      refine XS.icmpNo X2.here hx rfl (hb hby d6_9) rfl (teq hc4).2 ?_
      show Steps p.tables e below (T2.setTop (mkF m 12 #[.val (.ref (n0 + ob0)), .val (.int i1), .val (.int i2)] [])) _
      refine XS.aloadN X2.here hx rfl (hb hby d6_12) rfl rfl ?_
      show Steps p.tables e below (T2.setTop (mkF m 13 #[.val (.ref (n0 + ob0)), .val (.int i1), .val (.int i2)] [(.ref (n0 + ob0))])) _
      refine st6 _ ?_
      show Steps p.tables e below (T6.setTop (mkF m 16 #[.val (.ref (n0 + ob0)), .val (.int i1), .val (.int i2)] [(.ref (n0 + x5))])) _
      refine XS.iconst X6.here hx rfl (hb hby d6_16) ?_
      show Steps p.tables e below (T6.setTop (mkF m 17 #[.val (.ref (n0 + ob0)), .val (.int i1), .val (.int i2)] [(.int (2 : Int32)), (.ref (n0 + x5))])) _
      refine XS.iloadN X6.here hx rfl (hb hby d6_17) rfl ?_
      show Steps p.tables e below (T6.setTop (mkF m 18 #[.val (.ref (n0 + ob0)), .val (.int i1), .val (.int i2)] [(.int i1), (.int (2 : Int32)), (.ref (n0 + x5))])) _
      refine XS.imul X6.here hx rfl (hb hby d6_18) rfl ?_
      show Steps p.tables e below (T6.setTop (mkF m 19 #[.val (.ref (n0 + ob0)), .val (.int i1), .val (.int i2)] [(.int ((2 : Int32) * i1)), (.ref (n0 + x5))])) _
      refine XS.iconst X6.here hx rfl (hb hby d6_19) ?_
      show Steps p.tables e below (T6.setTop (mkF m 20 #[.val (.ref (n0 + ob0)), .val (.int i1), .val (.int i2)] [(.int (1 : Int32)), (.int ((2 : Int32) * i1)), (.ref (n0 + x5))])) _
      refine XS.iadd X6.here hx rfl (hb hby d6_20) rfl ?_
      show Steps p.tables e below (T6.setTop (mkF m 21 #[.val (.ref (n0 + ob0)), .val (.int i1), .val (.int i2)] [(.int (((2 : Int32) * i1) + (1 : Int32))), (.ref (n0 + x5))])) _
      refine ldW X6 hx hZ e6 O0 hx7 rfl (g := (mkF m 21 #[.val (.ref (n0 + ob0)), .val (.int i1), .val (.int i2)] [(.int (((2 : Int32) * i1) + (1 : Int32))), (.ref (n0 + x5))])) rfl rfl (hb hby d6_21) _ ?_
      show Steps p.tables e below (T6.setTop (mkF m 22 #[.val (.ref (n0 + ob0)), .val (.int i1), .val (.int i2)] [(.int x7)])) _
      refine XS.goto X6.here hx rfl (pc0 := 22) (pc' := 33) rfl (hb hby d6_22) (by decide) (by decide) ?_
      exact k
    obtain ⟨rfl, rfl⟩ := own_inj hf
    exact Gl.outI X6 hx hlk hret (hb hby d6_33) ⟨rfl, N0, by rw [e6]; exact O0⟩ (by show _ ≤ 0; omega) (by show _ ≤ 0; omega)
  · rw [if_neg hc4] at hf
    obtain ⟨x8, hx8, hf⟩ := own_bind hf
    obtain ⟨T9, X9, e9, st9⟩ := getF X2 hx hZ hown (host := "") (Or.inl (hw _ (List.mem_of_getElem? (i := 20) rfl))) Via.refl e2 (O0.fld (gR_e hx8) rfl rfl) (g := (mkF m 26 #[.val (.ref (n0 + ob0)), .val (.int i1), .val (.int i2)] [(.ref (n0 + ob0))])) rfl rfl (hb hby d6_26)
    obtain ⟨x10, hx10, hf⟩ := own_bind hf
    refine Gl.on (B := T9.setTop (mkF m 33 #[.val (.ref (n0 + ob0)), .val (.int i1), .val (.int i2)] [(.int x10)])) (fun t k => ?_) ?_
    · show Steps p.tables e below (T2.setTop (mkF m 9 #[.val (.ref (n0 + ob0)), .val (.int i1), .val (.int i2)] [(.int i2), (.int x3)])) _
      refine XS.icmpYes X2.here hx rfl (pc0 := 9) (pc' := 25) rfl (hb hby d6_9) rfl (feq hc4).2 (by decide) (by decide) ?_
      show Steps p.tables e below (T2.setTop (mkF m 25 #[.val (.ref (n0 + ob0)), .val (.int i1), .val (.int i2)] [])) _
      refine XS.aloadN X2.here hx rfl (hb hby d6_25) rfl rfl ?_
      show Steps p.tables e below (T2.setTop (mkF m 26 #[.val (.ref (n0 + ob0)), .val (.int i1), .val (.int i2)] [(.ref (n0 + ob0))])) _
      refine st9 _ ?_
      show Steps p.tables e below (T9.setTop (mkF m 29 #[.val (.ref (n0 + ob0)), .val (.int i1), .val (.int i2)] [(.ref (n0 + x8))])) _
      refine XS.iconst X9.here hx rfl (hb hby d6_29) ?_
      show Steps p.tables e below (T9.setTop (mkF m 30 #[.val (.ref (n0 + ob0)), .val (.int i1), .val (.int i2)] [(.int (2 : Int32)), (.ref (n0 + x8))])) _
      refine XS.iloadN X9.here hx rfl (hb hby d6_30) rfl ?_
      show Steps p.tables e below (T9.setTop (mkF m 31 #[.val (.ref (n0 + ob0)), .val (.int i1), .val (.int i2)] [(.int i1), (.int (2 : Int32)), (.ref (n0 + x8))])) _
      refine XS.imul X9.here hx rfl (hb hby d6_31) rfl ?_
      show Steps p.tables e below (T9.setTop (mkF m 32 #[.val (.ref (n0 + ob0)), .val (.int i1), .val (.int i2)] [(.int ((2 : Int32) * i1)), (.ref (n0 + x8))])) _
      refine ldW X9 hx hZ e9 O0 hx10 rfl (g := (mkF m 32 #[.val (.ref (n0 + ob0)), .val (.int i1), .val (.int i2)] [(.int ((2 : Int32) * i1)), (.ref (n0 + x8))])) rfl rfl (hb hby d6_32) _ ?_
      exact k
    obtain ⟨rfl, rfl⟩ := own_inj hf
    exact Gl.outI X9 hx hlk hret (hb hby d6_33) ⟨rfl, N0, by rw [e9]; exact O0⟩ (by show _ ≤ 0; omega) (by show _ ≤ 0; omega)
theorem pd_1 : parseMethodDescriptor "(II)I" = some ⟨[.int, .int], some .int⟩ := by decide +kernel
theorem pd_2 : parseMethodDescriptor "(III)I" = some ⟨[.int, .int, .int], some .int⟩ := by decide +kernel
theorem pd_3 : parseMethodDescriptor "(I[I[I)V" = some ⟨[.int, (.array .int), (.array .int)], none⟩ := by decide +kernel
theorem pn_0 : plainName "com/example/sondage/sondage/graph/GraphOppositePinLaw" = true := by first | (simp [plainName, overriddenIn]; done) | decide +kernel
def b0_155 (D : Hp) (i13 : Int32) (t0 : Int32) : Option (Int32 × Hp) :=
  if i13 = (0 : Int32) then (some ((0 : Int32), D)) else (if t0 = (0 : Int32) then (some ((0 : Int32), D)) else (some ((1 : Int32), D)))
set_option maxRecDepth 65536 in
set_option maxHeartbeats 40000000 in
theorem bt0_155 {p : Program} {l : Launch} {e : Env} {s : State} {m : MethodId} {args : Array Value} {below : List Frame} {meth : Method} {c : Code} {Z : State} {a0 : Array Value} {n0 : Nat} {D' : Hp} {r : Int32} {T0 : State} {locs : List Loc} {cells slots : Nat} {h0 : Heap} {D : Hp} {i0 : Int32} {i1 : Int32} {i2 : Int32} {i3 : Int32} {i4 : Int32} {i5 : Int32} {i6 : Int32} {i7 : Int32} {i8 : Int32} {i9 : Int32} {ob10 : Nat} {ob11 : Nat} {ob12 : Nat} {i13 : Int32} {t0 : Int32} (hw : ∀ d ∈ tables_1, d.before a0 Z = true) (hC : Cx p s m meth c Z code maxLocals ret "com/example/sondage/sondage/graph/GraphOppositePinLaw" "law") (X0 : Stand p l e room_1 s m args below meth c T0 locs cells slots) (e0 : T0.heap = h0) (O0 : Ow Kt1 Z h0 n0 D) (N0 : Fr n0 locs) (hcc : cells ≤ 4) (hss : slots ≤ 14) (hf : b0_155 D i13 t0 = some (r, D')) : Gl p e below s 16 128 (Qw Kt1 Z n0 (some (.int r)) D') (T0.setTop (mkF m 155 #[.val (.int i0), .val (.int i1), .val (.int i2), .val (.int i3), .val (.int i4), .val (.int i5), .val (.int i6), .val (.int i7), .val (.int i8), .val (.int i9), .val (.ref (n0 + ob10)), .val (.ref (n0 + ob11)), .val (.ref (n0 + ob12)), .val (.int i13), .unset] [(.int t0)])) := by
  obtain ⟨hx, hZ, hby, hml, hown, hnm, hret, hlk⟩ := id hC
  have hml : c.maxLocals = 15 := hml
  rw [b0_155] at hf
  refine Gl.on (B := T0.setTop (mkF m 159 #[.val (.int i0), .val (.int i1), .val (.int i2), .val (.int i3), .val (.int i4), .val (.int i5), .val (.int i6), .val (.int i7), .val (.int i8), .val (.int i9), .val (.ref (n0 + ob10)), .val (.ref (n0 + ob11)), .val (.ref (n0 + ob12)), .val (.int i13), .val (.int t0)] [(.int i13)])) (fun t k => ?_) ?_
  · show Steps p.tables e below (T0.setTop (mkF m 155 #[.val (.int i0), .val (.int i1), .val (.int i2), .val (.int i3), .val (.int i4), .val (.int i5), .val (.int i6), .val (.int i7), .val (.int i8), .val (.int i9), .val (.ref (n0 + ob10)), .val (.ref (n0 + ob11)), .val (.ref (n0 + ob12)), .val (.int i13), .unset] [(.int t0)])) _
    refine XS.istore X0.here hx rfl (hb hby at_155) rfl (l' := #[.val (.int i0), .val (.int i1), .val (.int i2), .val (.int i3), .val (.int i4), .val (.int i5), .val (.int i6), .val (.int i7), .val (.int i8), .val (.int i9), .val (.ref (n0 + ob10)), .val (.ref (n0 + ob11)), .val (.ref (n0 + ob12)), .val (.int i13), .val (.int t0)]) rfl ?_
    show Steps p.tables e below (T0.setTop (mkF m 157 #[.val (.int i0), .val (.int i1), .val (.int i2), .val (.int i3), .val (.int i4), .val (.int i5), .val (.int i6), .val (.int i7), .val (.int i8), .val (.int i9), .val (.ref (n0 + ob10)), .val (.ref (n0 + ob11)), .val (.ref (n0 + ob12)), .val (.int i13), .val (.int t0)] [])) _
    refine XS.iload X0.here hx rfl (hb hby at_157) rfl ?_
    exact k
  by_cases hc34 : i13 = (0 : Int32)
  · rw [if_pos hc34] at hf
    refine Gl.on (B := T0.setTop (mkF m 172 #[.val (.int i0), .val (.int i1), .val (.int i2), .val (.int i3), .val (.int i4), .val (.int i5), .val (.int i6), .val (.int i7), .val (.int i8), .val (.int i9), .val (.ref (n0 + ob10)), .val (.ref (n0 + ob11)), .val (.ref (n0 + ob12)), .val (.int i13), .val (.int t0)] [(.int (0 : Int32))])) (fun t k => ?_) ?_
    · show Steps p.tables e below (T0.setTop (mkF m 159 #[.val (.int i0), .val (.int i1), .val (.int i2), .val (.int i3), .val (.int i4), .val (.int i5), .val (.int i6), .val (.int i7), .val (.int i8), .val (.int i9), .val (.ref (n0 + ob10)), .val (.ref (n0 + ob11)), .val (.ref (n0 + ob12)), .val (.int i13), .val (.int t0)] [(.int i13)])) _
      refine XS.ifYes X0.here hx rfl (pc0 := 159) (pc' := 171) rfl (hb hby at_159) rfl ((if0 _ _).trans (teq hc34).1) (by decide) (by decide) ?_
      show Steps p.tables e below (T0.setTop (mkF m 171 #[.val (.int i0), .val (.int i1), .val (.int i2), .val (.int i3), .val (.int i4), .val (.int i5), .val (.int i6), .val (.int i7), .val (.int i8), .val (.int i9), .val (.ref (n0 + ob10)), .val (.ref (n0 + ob11)), .val (.ref (n0 + ob12)), .val (.int i13), .val (.int t0)] [])) _
      refine XS.iconst X0.here hx rfl (hb hby at_171) ?_
      exact k
    obtain ⟨rfl, rfl⟩ := own_inj hf
    exact Gl.outN X0 hx hlk (t := .boolean) hret (by simp) (hb hby at_172) ⟨rfl, N0, by rw [e0]; exact O0⟩ (by show _ ≤ 16; omega) (by show _ ≤ 128; omega)
  · rw [if_neg hc34] at hf
    refine Gl.on (B := T0.setTop (mkF m 164 #[.val (.int i0), .val (.int i1), .val (.int i2), .val (.int i3), .val (.int i4), .val (.int i5), .val (.int i6), .val (.int i7), .val (.int i8), .val (.int i9), .val (.ref (n0 + ob10)), .val (.ref (n0 + ob11)), .val (.ref (n0 + ob12)), .val (.int i13), .val (.int t0)] [(.int t0)])) (fun t k => ?_) ?_
    · show Steps p.tables e below (T0.setTop (mkF m 159 #[.val (.int i0), .val (.int i1), .val (.int i2), .val (.int i3), .val (.int i4), .val (.int i5), .val (.int i6), .val (.int i7), .val (.int i8), .val (.int i9), .val (.ref (n0 + ob10)), .val (.ref (n0 + ob11)), .val (.ref (n0 + ob12)), .val (.int i13), .val (.int t0)] [(.int i13)])) _
      refine XS.ifNo X0.here hx rfl (hb hby at_159) rfl ((if0 _ _).trans (feq hc34).1) ?_
      show Steps p.tables e below (T0.setTop (mkF m 162 #[.val (.int i0), .val (.int i1), .val (.int i2), .val (.int i3), .val (.int i4), .val (.int i5), .val (.int i6), .val (.int i7), .val (.int i8), .val (.int i9), .val (.ref (n0 + ob10)), .val (.ref (n0 + ob11)), .val (.ref (n0 + ob12)), .val (.int i13), .val (.int t0)] [])) _
      refine XS.iload X0.here hx rfl (hb hby at_162) rfl ?_
      exact k
    by_cases hc35 : t0 = (0 : Int32)
    · rw [if_pos hc35] at hf
      refine Gl.on (B := T0.setTop (mkF m 172 #[.val (.int i0), .val (.int i1), .val (.int i2), .val (.int i3), .val (.int i4), .val (.int i5), .val (.int i6), .val (.int i7), .val (.int i8), .val (.int i9), .val (.ref (n0 + ob10)), .val (.ref (n0 + ob11)), .val (.ref (n0 + ob12)), .val (.int i13), .val (.int t0)] [(.int (0 : Int32))])) (fun t k => ?_) ?_
      · show Steps p.tables e below (T0.setTop (mkF m 164 #[.val (.int i0), .val (.int i1), .val (.int i2), .val (.int i3), .val (.int i4), .val (.int i5), .val (.int i6), .val (.int i7), .val (.int i8), .val (.int i9), .val (.ref (n0 + ob10)), .val (.ref (n0 + ob11)), .val (.ref (n0 + ob12)), .val (.int i13), .val (.int t0)] [(.int t0)])) _
        refine XS.ifYes X0.here hx rfl (pc0 := 164) (pc' := 171) rfl (hb hby at_164) rfl ((if0 _ _).trans (teq hc35).1) (by decide) (by decide) ?_
        show Steps p.tables e below (T0.setTop (mkF m 171 #[.val (.int i0), .val (.int i1), .val (.int i2), .val (.int i3), .val (.int i4), .val (.int i5), .val (.int i6), .val (.int i7), .val (.int i8), .val (.int i9), .val (.ref (n0 + ob10)), .val (.ref (n0 + ob11)), .val (.ref (n0 + ob12)), .val (.int i13), .val (.int t0)] [])) _
        refine XS.iconst X0.here hx rfl (hb hby at_171) ?_
        exact k
      obtain ⟨rfl, rfl⟩ := own_inj hf
      exact Gl.outN X0 hx hlk (t := .boolean) hret (by simp) (hb hby at_172) ⟨rfl, N0, by rw [e0]; exact O0⟩ (by show _ ≤ 16; omega) (by show _ ≤ 128; omega)
    · rw [if_neg hc35] at hf
      refine Gl.on (B := T0.setTop (mkF m 172 #[.val (.int i0), .val (.int i1), .val (.int i2), .val (.int i3), .val (.int i4), .val (.int i5), .val (.int i6), .val (.int i7), .val (.int i8), .val (.int i9), .val (.ref (n0 + ob10)), .val (.ref (n0 + ob11)), .val (.ref (n0 + ob12)), .val (.int i13), .val (.int t0)] [(.int (1 : Int32))])) (fun t k => ?_) ?_
      · show Steps p.tables e below (T0.setTop (mkF m 164 #[.val (.int i0), .val (.int i1), .val (.int i2), .val (.int i3), .val (.int i4), .val (.int i5), .val (.int i6), .val (.int i7), .val (.int i8), .val (.int i9), .val (.ref (n0 + ob10)), .val (.ref (n0 + ob11)), .val (.ref (n0 + ob12)), .val (.int i13), .val (.int t0)] [(.int t0)])) _
        refine XS.ifNo X0.here hx rfl (hb hby at_164) rfl ((if0 _ _).trans (feq hc35).1) ?_
        show Steps p.tables e below (T0.setTop (mkF m 167 #[.val (.int i0), .val (.int i1), .val (.int i2), .val (.int i3), .val (.int i4), .val (.int i5), .val (.int i6), .val (.int i7), .val (.int i8), .val (.int i9), .val (.ref (n0 + ob10)), .val (.ref (n0 + ob11)), .val (.ref (n0 + ob12)), .val (.int i13), .val (.int t0)] [])) _
        refine XS.iconst X0.here hx rfl (hb hby at_167) ?_
        show Steps p.tables e below (T0.setTop (mkF m 168 #[.val (.int i0), .val (.int i1), .val (.int i2), .val (.int i3), .val (.int i4), .val (.int i5), .val (.int i6), .val (.int i7), .val (.int i8), .val (.int i9), .val (.ref (n0 + ob10)), .val (.ref (n0 + ob11)), .val (.ref (n0 + ob12)), .val (.int i13), .val (.int t0)] [(.int (1 : Int32))])) _
        refine XS.goto X0.here hx rfl (pc0 := 168) (pc' := 172) rfl (hb hby at_168) (by decide) (by decide) ?_
        exact k
      obtain ⟨rfl, rfl⟩ := own_inj hf
      exact Gl.outN X0 hx hlk (t := .boolean) hret (by simp) (hb hby at_172) ⟨rfl, N0, by rw [e0]; exact O0⟩ (by show _ ≤ 16; omega) (by show _ ≤ 128; omega)
def b0_154 (D : Hp) (i13 : Int32) : Option (Int32 × Hp) :=
  b0_155 D i13 (0 : Int32)
set_option maxRecDepth 65536 in
set_option maxHeartbeats 40000000 in
theorem bt0_154 {p : Program} {l : Launch} {e : Env} {s : State} {m : MethodId} {args : Array Value} {below : List Frame} {meth : Method} {c : Code} {Z : State} {a0 : Array Value} {n0 : Nat} {D' : Hp} {r : Int32} {T0 : State} {locs : List Loc} {cells slots : Nat} {h0 : Heap} {D : Hp} {i0 : Int32} {i1 : Int32} {i2 : Int32} {i3 : Int32} {i4 : Int32} {i5 : Int32} {i6 : Int32} {i7 : Int32} {i8 : Int32} {i9 : Int32} {ob10 : Nat} {ob11 : Nat} {ob12 : Nat} {i13 : Int32} (hw : ∀ d ∈ tables_1, d.before a0 Z = true) (hC : Cx p s m meth c Z code maxLocals ret "com/example/sondage/sondage/graph/GraphOppositePinLaw" "law") (X0 : Stand p l e room_1 s m args below meth c T0 locs cells slots) (e0 : T0.heap = h0) (O0 : Ow Kt1 Z h0 n0 D) (N0 : Fr n0 locs) (hcc : cells ≤ 4) (hss : slots ≤ 14) (hf : b0_154 D i13 = some (r, D')) : Gl p e below s 16 128 (Qw Kt1 Z n0 (some (.int r)) D') (T0.setTop (mkF m 154 #[.val (.int i0), .val (.int i1), .val (.int i2), .val (.int i3), .val (.int i4), .val (.int i5), .val (.int i6), .val (.int i7), .val (.int i8), .val (.int i9), .val (.ref (n0 + ob10)), .val (.ref (n0 + ob11)), .val (.ref (n0 + ob12)), .val (.int i13), .unset] [])) := by
  obtain ⟨hx, hZ, hby, hml, hown, hnm, hret, hlk⟩ := id hC
  have hml : c.maxLocals = 15 := hml
  rw [b0_154] at hf
  refine Gl.on (B := T0.setTop (mkF m 155 #[.val (.int i0), .val (.int i1), .val (.int i2), .val (.int i3), .val (.int i4), .val (.int i5), .val (.int i6), .val (.int i7), .val (.int i8), .val (.int i9), .val (.ref (n0 + ob10)), .val (.ref (n0 + ob11)), .val (.ref (n0 + ob12)), .val (.int i13), .unset] [(.int (0 : Int32))])) (fun t k => ?_) ?_
  · show Steps p.tables e below (T0.setTop (mkF m 154 #[.val (.int i0), .val (.int i1), .val (.int i2), .val (.int i3), .val (.int i4), .val (.int i5), .val (.int i6), .val (.int i7), .val (.int i8), .val (.int i9), .val (.ref (n0 + ob10)), .val (.ref (n0 + ob11)), .val (.ref (n0 + ob12)), .val (.int i13), .unset] [])) _
    refine XS.iconst X0.here hx rfl (hb hby at_154) ?_
    exact k
  exact bt0_155 hw hC X0 e0 O0 N0 (by omega) (by omega) hf
def b0_122 (D : Hp) (i8 : Int32) (i9 : Int32) (ob12 : Nat) (t0 : Int32) : Option (Int32 × Hp) :=
  (ck D ob12 1).bind fun u27 => (f6 D ob12 (1 : Int32) i8).bind fun q26 => own_let q26.1 fun x28 => own_let q26.2 fun D26 =>
  if x28 = i9 then ((ck D26 ob12 1).bind fun u31 => (f6 D26 ob12 (1 : Int32) i9).bind fun q30 => own_let q30.1 fun x32 => own_let q30.2 fun D30 =>
  if x32 = i8 then (b0_155 D30 t0 (1 : Int32)) else (b0_154 D30 t0)) else (b0_154 D26 t0)
set_option maxRecDepth 65536 in
set_option maxHeartbeats 40000000 in
theorem bt0_122 {p : Program} {l : Launch} {e : Env} {s : State} {m : MethodId} {args : Array Value} {below : List Frame} {meth : Method} {c : Code} {Z : State} {a0 : Array Value} {n0 : Nat} {D' : Hp} {r : Int32} {T0 : State} {locs : List Loc} {cells slots : Nat} {h0 : Heap} {D : Hp} {i0 : Int32} {i1 : Int32} {i2 : Int32} {i3 : Int32} {i4 : Int32} {i5 : Int32} {i6 : Int32} {i7 : Int32} {i8 : Int32} {i9 : Int32} {ob10 : Nat} {ob11 : Nat} {ob12 : Nat} {t0 : Int32} (hw : ∀ d ∈ tables_1, d.before a0 Z = true) (hC : Cx p s m meth c Z code maxLocals ret "com/example/sondage/sondage/graph/GraphOppositePinLaw" "law") (X0 : Stand p l e room_1 s m args below meth c T0 locs cells slots) (e0 : T0.heap = h0) (O0 : Ow Kt1 Z h0 n0 D) (N0 : Fr n0 locs) (hcc : cells ≤ 4) (hss : slots ≤ 14) (hf : b0_122 D i8 i9 ob12 t0 = some (r, D')) : Gl p e below s 16 128 (Qw Kt1 Z n0 (some (.int r)) D') (T0.setTop (mkF m 122 #[.val (.int i0), .val (.int i1), .val (.int i2), .val (.int i3), .val (.int i4), .val (.int i5), .val (.int i6), .val (.int i7), .val (.int i8), .val (.int i9), .val (.ref (n0 + ob10)), .val (.ref (n0 + ob11)), .val (.ref (n0 + ob12)), .unset, .unset] [(.int t0)])) := by
  obtain ⟨hx, hZ, hby, hml, hown, hnm, hret, hlk⟩ := id hC
  have hml : c.maxLocals = 15 := hml
  rw [b0_122] at hf
  obtain ⟨u27, hk26, hf⟩ := own_bind hf
  obtain ⟨⟨x28, D26⟩, hq26, hf⟩ := own_bind hf
  obtain ⟨_, rfl, hf⟩ := own_letE hf
  obtain ⟨_, rfl, hf⟩ := own_letE hf
  obtain ⟨T26, h26, L26, X26, e26, O26, N26, st26⟩ := callVW X0 hx hZ (y := (⟨"com/example/sondage/sondage/graph/Graph", "opposite", "(II)I"⟩ : MethodName)) hown (hw _ (List.mem_of_getElem? (i := 26) rfl)) (hw _ (List.mem_of_getElem? (i := 27) rfl)) (hw _ (List.mem_of_getElem? (i := 29) rfl)) (hw _ (List.mem_of_getElem? (i := 28) rfl)) (hw _ (List.mem_of_getElem? (i := 11) rfl)) (hw _ (List.mem_of_getElem? (i := 30) rfl)) (by decide) e0 O0 N0 hk26 rfl (as' := [(.int (1 : Int32)), (.int i8)]) (ct6 hw hq26) (W := 0) (kc := 0) (ks := 0) rfl rfl (by decide) (by decide) (g := (mkF m 129 #[.val (.int i0), .val (.int i1), .val (.int i2), .val (.int i3), .val (.int i4), .val (.int i5), .val (.int i6), .val (.int i7), .val (.int i8), .val (.int i9), .val (.ref (n0 + ob10)), .val (.ref (n0 + ob11)), .val (.ref (n0 + ob12)), .val (.int t0), .unset] [(.int i8), (.int (1 : Int32)), (.ref (n0 + ob12))])) rfl (by rw [hml]; rfl) (rest := []) (lenOf pd_1 rfl) rfl (by show 2 * 0 + _ ≤ _; exact Nat.le_of_eq rfl) (hb hby at_129) (by show _ + 0 ≤ 16; omega) (by show _ + 0 ≤ 128; omega)
  refine Gl.on (B := T26.setTop (mkF m 134 #[.val (.int i0), .val (.int i1), .val (.int i2), .val (.int i3), .val (.int i4), .val (.int i5), .val (.int i6), .val (.int i7), .val (.int i8), .val (.int i9), .val (.ref (n0 + ob10)), .val (.ref (n0 + ob11)), .val (.ref (n0 + ob12)), .val (.int t0), .unset] [(.int i9), (.int x28)])) (fun t k => ?_) ?_
  · show Steps p.tables e below (T0.setTop (mkF m 122 #[.val (.int i0), .val (.int i1), .val (.int i2), .val (.int i3), .val (.int i4), .val (.int i5), .val (.int i6), .val (.int i7), .val (.int i8), .val (.int i9), .val (.ref (n0 + ob10)), .val (.ref (n0 + ob11)), .val (.ref (n0 + ob12)), .unset, .unset] [(.int t0)])) _
    refine XS.istore X0.here hx rfl (hb hby at_122) rfl (l' := #[.val (.int i0), .val (.int i1), .val (.int i2), .val (.int i3), .val (.int i4), .val (.int i5), .val (.int i6), .val (.int i7), .val (.int i8), .val (.int i9), .val (.ref (n0 + ob10)), .val (.ref (n0 + ob11)), .val (.ref (n0 + ob12)), .val (.int t0), .unset]) rfl ?_
    show Steps p.tables e below (T0.setTop (mkF m 124 #[.val (.int i0), .val (.int i1), .val (.int i2), .val (.int i3), .val (.int i4), .val (.int i5), .val (.int i6), .val (.int i7), .val (.int i8), .val (.int i9), .val (.ref (n0 + ob10)), .val (.ref (n0 + ob11)), .val (.ref (n0 + ob12)), .val (.int t0), .unset] [])) _
    refine XS.aload X0.here hx rfl (hb hby at_124) rfl rfl ?_
    show Steps p.tables e below (T0.setTop (mkF m 126 #[.val (.int i0), .val (.int i1), .val (.int i2), .val (.int i3), .val (.int i4), .val (.int i5), .val (.int i6), .val (.int i7), .val (.int i8), .val (.int i9), .val (.ref (n0 + ob10)), .val (.ref (n0 + ob11)), .val (.ref (n0 + ob12)), .val (.int t0), .unset] [(.ref (n0 + ob12))])) _
    refine XS.iconst X0.here hx rfl (hb hby at_126) ?_
    show Steps p.tables e below (T0.setTop (mkF m 127 #[.val (.int i0), .val (.int i1), .val (.int i2), .val (.int i3), .val (.int i4), .val (.int i5), .val (.int i6), .val (.int i7), .val (.int i8), .val (.int i9), .val (.ref (n0 + ob10)), .val (.ref (n0 + ob11)), .val (.ref (n0 + ob12)), .val (.int t0), .unset] [(.int (1 : Int32)), (.ref (n0 + ob12))])) _
    refine XS.iload X0.here hx rfl (hb hby at_127) rfl ?_
    show Steps p.tables e below (T0.setTop (mkF m 129 #[.val (.int i0), .val (.int i1), .val (.int i2), .val (.int i3), .val (.int i4), .val (.int i5), .val (.int i6), .val (.int i7), .val (.int i8), .val (.int i9), .val (.ref (n0 + ob10)), .val (.ref (n0 + ob11)), .val (.ref (n0 + ob12)), .val (.int t0), .unset] [(.int i8), (.int (1 : Int32)), (.ref (n0 + ob12))])) _
    refine st26 _ ?_
    show Steps p.tables e below (T26.setTop (mkF m 132 #[.val (.int i0), .val (.int i1), .val (.int i2), .val (.int i3), .val (.int i4), .val (.int i5), .val (.int i6), .val (.int i7), .val (.int i8), .val (.int i9), .val (.ref (n0 + ob10)), .val (.ref (n0 + ob11)), .val (.ref (n0 + ob12)), .val (.int t0), .unset] [(.int x28)])) _
    refine XS.iload X26.here hx rfl (hb hby at_132) rfl ?_
    exact k
  by_cases hc29 : x28 = i9
  · rw [if_pos hc29] at hf
    obtain ⟨u31, hk30, hf⟩ := own_bind hf
    obtain ⟨⟨x32, D30⟩, hq30, hf⟩ := own_bind hf
    obtain ⟨_, rfl, hf⟩ := own_letE hf
    obtain ⟨_, rfl, hf⟩ := own_letE hf
    obtain ⟨T30, h30, L30, X30, e30, O30, N30, st30⟩ := callVW X26 hx hZ (y := (⟨"com/example/sondage/sondage/graph/Graph", "opposite", "(II)I"⟩ : MethodName)) hown (hw _ (List.mem_of_getElem? (i := 26) rfl)) (hw _ (List.mem_of_getElem? (i := 27) rfl)) (hw _ (List.mem_of_getElem? (i := 29) rfl)) (hw _ (List.mem_of_getElem? (i := 28) rfl)) (hw _ (List.mem_of_getElem? (i := 11) rfl)) (hw _ (List.mem_of_getElem? (i := 30) rfl)) (by decide) e26 O26 N26 hk30 rfl (as' := [(.int (1 : Int32)), (.int i9)]) (ct6 hw hq30) (W := 0) (kc := 0) (ks := 0) rfl rfl (by decide) (by decide) (g := (mkF m 142 #[.val (.int i0), .val (.int i1), .val (.int i2), .val (.int i3), .val (.int i4), .val (.int i5), .val (.int i6), .val (.int i7), .val (.int i8), .val (.int i9), .val (.ref (n0 + ob10)), .val (.ref (n0 + ob11)), .val (.ref (n0 + ob12)), .val (.int t0), .unset] [(.int i9), (.int (1 : Int32)), (.ref (n0 + ob12))])) rfl (by rw [hml]; rfl) (rest := []) (lenOf pd_1 rfl) rfl (by show 2 * 0 + _ ≤ _; exact Nat.le_of_eq rfl) (hb hby at_142) (by show _ + 0 ≤ 16; omega) (by show _ + 0 ≤ 128; omega)
    refine Gl.on (B := T30.setTop (mkF m 147 #[.val (.int i0), .val (.int i1), .val (.int i2), .val (.int i3), .val (.int i4), .val (.int i5), .val (.int i6), .val (.int i7), .val (.int i8), .val (.int i9), .val (.ref (n0 + ob10)), .val (.ref (n0 + ob11)), .val (.ref (n0 + ob12)), .val (.int t0), .unset] [(.int i8), (.int x32)])) (fun t k => ?_) ?_
    · show Steps p.tables e below (T26.setTop (mkF m 134 #[.val (.int i0), .val (.int i1), .val (.int i2), .val (.int i3), .val (.int i4), .val (.int i5), .val (.int i6), .val (.int i7), .val (.int i8), .val (.int i9), .val (.ref (n0 + ob10)), .val (.ref (n0 + ob11)), .val (.ref (n0 + ob12)), .val (.int t0), .unset] [(.int i9), (.int x28)])) _
      refine XS.icmpNo X26.here hx rfl (hb hby at_134) rfl (teq hc29).2 ?_
      show Steps p.tables e below (T26.setTop (mkF m 137 #[.val (.int i0), .val (.int i1), .val (.int i2), .val (.int i3), .val (.int i4), .val (.int i5), .val (.int i6), .val (.int i7), .val (.int i8), .val (.int i9), .val (.ref (n0 + ob10)), .val (.ref (n0 + ob11)), .val (.ref (n0 + ob12)), .val (.int t0), .unset] [])) _
      refine XS.aload X26.here hx rfl (hb hby at_137) rfl rfl ?_
      show Steps p.tables e below (T26.setTop (mkF m 139 #[.val (.int i0), .val (.int i1), .val (.int i2), .val (.int i3), .val (.int i4), .val (.int i5), .val (.int i6), .val (.int i7), .val (.int i8), .val (.int i9), .val (.ref (n0 + ob10)), .val (.ref (n0 + ob11)), .val (.ref (n0 + ob12)), .val (.int t0), .unset] [(.ref (n0 + ob12))])) _
      refine XS.iconst X26.here hx rfl (hb hby at_139) ?_
      show Steps p.tables e below (T26.setTop (mkF m 140 #[.val (.int i0), .val (.int i1), .val (.int i2), .val (.int i3), .val (.int i4), .val (.int i5), .val (.int i6), .val (.int i7), .val (.int i8), .val (.int i9), .val (.ref (n0 + ob10)), .val (.ref (n0 + ob11)), .val (.ref (n0 + ob12)), .val (.int t0), .unset] [(.int (1 : Int32)), (.ref (n0 + ob12))])) _
      refine XS.iload X26.here hx rfl (hb hby at_140) rfl ?_
      show Steps p.tables e below (T26.setTop (mkF m 142 #[.val (.int i0), .val (.int i1), .val (.int i2), .val (.int i3), .val (.int i4), .val (.int i5), .val (.int i6), .val (.int i7), .val (.int i8), .val (.int i9), .val (.ref (n0 + ob10)), .val (.ref (n0 + ob11)), .val (.ref (n0 + ob12)), .val (.int t0), .unset] [(.int i9), (.int (1 : Int32)), (.ref (n0 + ob12))])) _
      refine st30 _ ?_
      show Steps p.tables e below (T30.setTop (mkF m 145 #[.val (.int i0), .val (.int i1), .val (.int i2), .val (.int i3), .val (.int i4), .val (.int i5), .val (.int i6), .val (.int i7), .val (.int i8), .val (.int i9), .val (.ref (n0 + ob10)), .val (.ref (n0 + ob11)), .val (.ref (n0 + ob12)), .val (.int t0), .unset] [(.int x32)])) _
      refine XS.iload X30.here hx rfl (hb hby at_145) rfl ?_
      exact k
    by_cases hc33 : x32 = i8
    · rw [if_pos hc33] at hf
      refine Gl.on (B := T30.setTop (mkF m 155 #[.val (.int i0), .val (.int i1), .val (.int i2), .val (.int i3), .val (.int i4), .val (.int i5), .val (.int i6), .val (.int i7), .val (.int i8), .val (.int i9), .val (.ref (n0 + ob10)), .val (.ref (n0 + ob11)), .val (.ref (n0 + ob12)), .val (.int t0), .unset] [(.int (1 : Int32))])) (fun t k => ?_) ?_
      · show Steps p.tables e below (T30.setTop (mkF m 147 #[.val (.int i0), .val (.int i1), .val (.int i2), .val (.int i3), .val (.int i4), .val (.int i5), .val (.int i6), .val (.int i7), .val (.int i8), .val (.int i9), .val (.ref (n0 + ob10)), .val (.ref (n0 + ob11)), .val (.ref (n0 + ob12)), .val (.int t0), .unset] [(.int i8), (.int x32)])) _
        refine XS.icmpNo X30.here hx rfl (hb hby at_147) rfl (teq hc33).2 ?_
        show Steps p.tables e below (T30.setTop (mkF m 150 #[.val (.int i0), .val (.int i1), .val (.int i2), .val (.int i3), .val (.int i4), .val (.int i5), .val (.int i6), .val (.int i7), .val (.int i8), .val (.int i9), .val (.ref (n0 + ob10)), .val (.ref (n0 + ob11)), .val (.ref (n0 + ob12)), .val (.int t0), .unset] [])) _
        refine XS.iconst X30.here hx rfl (hb hby at_150) ?_
        show Steps p.tables e below (T30.setTop (mkF m 151 #[.val (.int i0), .val (.int i1), .val (.int i2), .val (.int i3), .val (.int i4), .val (.int i5), .val (.int i6), .val (.int i7), .val (.int i8), .val (.int i9), .val (.ref (n0 + ob10)), .val (.ref (n0 + ob11)), .val (.ref (n0 + ob12)), .val (.int t0), .unset] [(.int (1 : Int32))])) _
        refine XS.goto X30.here hx rfl (pc0 := 151) (pc' := 155) rfl (hb hby at_151) (by decide) (by decide) ?_
        exact k
      exact bt0_155 hw hC X30 e30 O30 N30 (by omega) (by omega) hf
    · rw [if_neg hc33] at hf
      refine Gl.on (B := T30.setTop (mkF m 154 #[.val (.int i0), .val (.int i1), .val (.int i2), .val (.int i3), .val (.int i4), .val (.int i5), .val (.int i6), .val (.int i7), .val (.int i8), .val (.int i9), .val (.ref (n0 + ob10)), .val (.ref (n0 + ob11)), .val (.ref (n0 + ob12)), .val (.int t0), .unset] [])) (fun t k => ?_) ?_
      · show Steps p.tables e below (T30.setTop (mkF m 147 #[.val (.int i0), .val (.int i1), .val (.int i2), .val (.int i3), .val (.int i4), .val (.int i5), .val (.int i6), .val (.int i7), .val (.int i8), .val (.int i9), .val (.ref (n0 + ob10)), .val (.ref (n0 + ob11)), .val (.ref (n0 + ob12)), .val (.int t0), .unset] [(.int i8), (.int x32)])) _
        refine XS.icmpYes X30.here hx rfl (pc0 := 147) (pc' := 154) rfl (hb hby at_147) rfl (feq hc33).2 (by decide) (by decide) ?_
        exact k
      exact bt0_154 hw hC X30 e30 O30 N30 (by omega) (by omega) hf
  · rw [if_neg hc29] at hf
    refine Gl.on (B := T26.setTop (mkF m 154 #[.val (.int i0), .val (.int i1), .val (.int i2), .val (.int i3), .val (.int i4), .val (.int i5), .val (.int i6), .val (.int i7), .val (.int i8), .val (.int i9), .val (.ref (n0 + ob10)), .val (.ref (n0 + ob11)), .val (.ref (n0 + ob12)), .val (.int t0), .unset] [])) (fun t k => ?_) ?_
    · show Steps p.tables e below (T26.setTop (mkF m 134 #[.val (.int i0), .val (.int i1), .val (.int i2), .val (.int i3), .val (.int i4), .val (.int i5), .val (.int i6), .val (.int i7), .val (.int i8), .val (.int i9), .val (.ref (n0 + ob10)), .val (.ref (n0 + ob11)), .val (.ref (n0 + ob12)), .val (.int t0), .unset] [(.int i9), (.int x28)])) _
      refine XS.icmpYes X26.here hx rfl (pc0 := 134) (pc' := 154) rfl (hb hby at_134) rfl (feq hc29).2 (by decide) (by decide) ?_
      exact k
    exact bt0_154 hw hC X26 e26 O26 N26 (by omega) (by omega) hf
def b0_121 (D : Hp) (i8 : Int32) (i9 : Int32) (ob12 : Nat) : Option (Int32 × Hp) :=
  b0_122 D i8 i9 ob12 (0 : Int32)
set_option maxRecDepth 65536 in
set_option maxHeartbeats 40000000 in
theorem bt0_121 {p : Program} {l : Launch} {e : Env} {s : State} {m : MethodId} {args : Array Value} {below : List Frame} {meth : Method} {c : Code} {Z : State} {a0 : Array Value} {n0 : Nat} {D' : Hp} {r : Int32} {T0 : State} {locs : List Loc} {cells slots : Nat} {h0 : Heap} {D : Hp} {i0 : Int32} {i1 : Int32} {i2 : Int32} {i3 : Int32} {i4 : Int32} {i5 : Int32} {i6 : Int32} {i7 : Int32} {i8 : Int32} {i9 : Int32} {ob10 : Nat} {ob11 : Nat} {ob12 : Nat} (hw : ∀ d ∈ tables_1, d.before a0 Z = true) (hC : Cx p s m meth c Z code maxLocals ret "com/example/sondage/sondage/graph/GraphOppositePinLaw" "law") (X0 : Stand p l e room_1 s m args below meth c T0 locs cells slots) (e0 : T0.heap = h0) (O0 : Ow Kt1 Z h0 n0 D) (N0 : Fr n0 locs) (hcc : cells ≤ 4) (hss : slots ≤ 14) (hf : b0_121 D i8 i9 ob12 = some (r, D')) : Gl p e below s 16 128 (Qw Kt1 Z n0 (some (.int r)) D') (T0.setTop (mkF m 121 #[.val (.int i0), .val (.int i1), .val (.int i2), .val (.int i3), .val (.int i4), .val (.int i5), .val (.int i6), .val (.int i7), .val (.int i8), .val (.int i9), .val (.ref (n0 + ob10)), .val (.ref (n0 + ob11)), .val (.ref (n0 + ob12)), .unset, .unset] [])) := by
  obtain ⟨hx, hZ, hby, hml, hown, hnm, hret, hlk⟩ := id hC
  have hml : c.maxLocals = 15 := hml
  rw [b0_121] at hf
  refine Gl.on (B := T0.setTop (mkF m 122 #[.val (.int i0), .val (.int i1), .val (.int i2), .val (.int i3), .val (.int i4), .val (.int i5), .val (.int i6), .val (.int i7), .val (.int i8), .val (.int i9), .val (.ref (n0 + ob10)), .val (.ref (n0 + ob11)), .val (.ref (n0 + ob12)), .unset, .unset] [(.int (0 : Int32))])) (fun t k => ?_) ?_
  · show Steps p.tables e below (T0.setTop (mkF m 121 #[.val (.int i0), .val (.int i1), .val (.int i2), .val (.int i3), .val (.int i4), .val (.int i5), .val (.int i6), .val (.int i7), .val (.int i8), .val (.int i9), .val (.ref (n0 + ob10)), .val (.ref (n0 + ob11)), .val (.ref (n0 + ob12)), .unset, .unset] [])) _
    refine XS.iconst X0.here hx rfl (hb hby at_121) ?_
    exact k
  exact bt0_122 hw hC X0 e0 O0 N0 (by omega) (by omega) hf
def f0 (D : Hp) (i0 : Int32) (i1 : Int32) (i2 : Int32) (i3 : Int32) (i4 : Int32) : Option (Int32 × Hp) :=
  own_let ((i0 &&& (1023 : Int32)) + (2 : Int32)) fun v1 =>
  (f1 D i1 v1).bind fun q2 => own_let q2.1 fun x3 => own_let q2.2 fun D2 =>
  (f2 D2 x3 i2 v1).bind fun q4 => own_let q4.1 fun x5 => own_let q4.2 fun D4 =>
  (f1 D4 i3 v1).bind fun q6 => own_let q6.1 fun x7 => own_let q6.2 fun D6 =>
  (f2 D6 x7 i4 v1).bind fun q8 => own_let q8.1 fun x9 => own_let q8.2 fun D8 =>
  own_let (D8.length) fun a10 => (nA D8 0 (2 : Int32) 2 (.int (0 : Int32))).bind fun D10 =>
  (wV D10 a10 0 (0 : Int32) (.int x3)).bind fun D11 =>
  (wV D11 a10 0 (1 : Int32) (.int x7)).bind fun D12 =>
  own_let (D12.length) fun a13 => (nA D12 0 (2 : Int32) 2 (.int (0 : Int32))).bind fun D13 =>
  (wV D13 a13 0 (0 : Int32) (.int x5)).bind fun D14 =>
  (wV D14 a13 0 (1 : Int32) (.int x9)).bind fun D15 =>
  own_let (D15.length) fun a16 => own_let (D15 ++ [(1, [(.int (0 : Int32)), .null])]) fun D16 =>
  (f3 D16 a16 v1 a10 a13).bind fun D17 =>
  (ck D17 a16 1).bind fun u19 => (f6 D17 a16 (0 : Int32) x3).bind fun q18 => own_let q18.1 fun x20 => own_let q18.2 fun D18 =>
  if x20 = x5 then ((ck D18 a16 1).bind fun u23 => (f6 D18 a16 (0 : Int32) x5).bind fun q22 => own_let q22.1 fun x24 => own_let q22.2 fun D22 =>
  if x24 = x3 then (b0_122 D22 x7 x9 a16 (1 : Int32)) else (b0_121 D22 x7 x9 a16)) else (b0_121 D18 x7 x9 a16)
theorem ef_0 (m : MethodId) (i0 : Int32) (i1 : Int32) (i2 : Int32) (i3 : Int32) (i4 : Int32) : entryFrame m #[(.int i0), (.int i1), (.int i2), (.int i3), (.int i4)] maxLocals = mkF m 0 #[.val (.int i0), .val (.int i1), .val (.int i2), .val (.int i3), .val (.int i4), .unset, .unset, .unset, .unset, .unset, .unset, .unset, .unset, .unset, .unset] [] := by first | (simp [entryFrame, mkF, argsToLocals, Value.category, maxLocals]; done) | rfl
set_option maxRecDepth 65536 in
set_option maxHeartbeats 40000000 in
theorem ct0 {l : Launch} {Z : State} {a0 : Array Value} (hw : ∀ d ∈ tables_1, d.before a0 Z = true) {n0 : Nat} {D D' : Hp} {i0 : Int32} {i1 : Int32} {i2 : Int32} {i3 : Int32} {i4 : Int32} {r : Int32} (hf : f0 D i0 i1 i2 i3 i4 = some (r, D')) :
    Ct Kt1 l Z x (.code x code maxLocals ret) room_1 n0 D #[(.int i0), (.int i1), (.int i2), (.int i3), (.int i4)] (some (.int r)) D' := by
  refine Ct.of (plainFor_of_name pn_0) ?_
  intro p e s m below meth c T0 h0 hC X0 e0 O0
  obtain ⟨hx, hZ, hby, hml, hown, hnm, hret, hlk⟩ := id hC
  have hml : c.maxLocals = 15 := hml
  have hown : s.vm.findClass "com/example/sondage/sondage/graph/GraphOppositePinLaw" = some m.cls := hown
  have hnm : meth.name = "law" := hnm
  have N0 := Fr.nil n0
  refine Gl.on (fun t k => castTop (ef_0 m i0 i1 i2 i3 i4) k) ?_
  rw [f0] at hf
  obtain ⟨v1, hv1, hf⟩ := own_letE hf
  obtain ⟨⟨x3, D2⟩, hq2, hf⟩ := own_bind hf
  obtain ⟨_, rfl, hf⟩ := own_letE hf
  obtain ⟨_, rfl, hf⟩ := own_letE hf
  obtain ⟨T2, h2, L2, X2, e2, O2, N2, st2⟩ := callSW X0 hx hZ (y := (⟨"com/example/sondage/sondage/graph/GraphOppositePinLaw", "draw", "(II)I"⟩ : MethodName)) hown (hw _ (List.mem_of_getElem? (i := 0) rfl)) (hw _ (List.mem_of_getElem? (i := 1) rfl)) (hw _ (List.mem_of_getElem? (i := 2) rfl)) (hw _ (List.mem_of_getElem? (i := 3) rfl)) (by decide) e0 O0 N0 (as' := [(.int i1), (.int v1)]) (ct1 hw hq2) (W := 0) (kc := 0) (ks := 0) rfl rfl (by decide) (by decide) (g := (mkF m 12 #[.val (.int i0), .val (.int i1), .val (.int i2), .val (.int i3), .val (.int i4), .val (.int v1), .unset, .unset, .unset, .unset, .unset, .unset, .unset, .unset, .unset] [(.int v1), (.int i1)])) rfl (by rw [hml]; rfl) (rest := []) (lenOf pd_1 rfl) rfl (by show 2 * 0 + _ ≤ _; exact Nat.le_of_eq rfl) (hb hby at_12) (by show _ + 0 ≤ 16; omega) (by show _ + 0 ≤ 128; omega)
  obtain ⟨⟨x5, D4⟩, hq4, hf⟩ := own_bind hf
  obtain ⟨_, rfl, hf⟩ := own_letE hf
  obtain ⟨_, rfl, hf⟩ := own_letE hf
  obtain ⟨T4, h4, L4, X4, e4, O4, N4, st4⟩ := callSW X2 hx hZ (y := (⟨"com/example/sondage/sondage/graph/GraphOppositePinLaw", "other", "(III)I"⟩ : MethodName)) hown (hw _ (List.mem_of_getElem? (i := 5) rfl)) (hw _ (List.mem_of_getElem? (i := 6) rfl)) (hw _ (List.mem_of_getElem? (i := 2) rfl)) (hw _ (List.mem_of_getElem? (i := 7) rfl)) (by decide) e2 O2 N2 (as' := [(.int x3), (.int i2), (.int v1)]) (ct2 hw hq4) (W := 0) (kc := 0) (ks := 0) rfl rfl (by decide) (by decide) (g := (mkF m 22 #[.val (.int i0), .val (.int i1), .val (.int i2), .val (.int i3), .val (.int i4), .val (.int v1), .val (.int x3), .unset, .unset, .unset, .unset, .unset, .unset, .unset, .unset] [(.int v1), (.int i2), (.int x3)])) rfl (by rw [hml]; rfl) (rest := []) (lenOf pd_2 rfl) rfl (by show 2 * 0 + _ ≤ _; exact Nat.le_of_eq rfl) (hb hby at_22) (by show _ + 0 ≤ 16; omega) (by show _ + 0 ≤ 128; omega)
  obtain ⟨⟨x7, D6⟩, hq6, hf⟩ := own_bind hf
  obtain ⟨_, rfl, hf⟩ := own_letE hf
  obtain ⟨_, rfl, hf⟩ := own_letE hf
  obtain ⟨T6, h6, L6, X6, e6, O6, N6, st6⟩ := callSW X4 hx hZ (y := (⟨"com/example/sondage/sondage/graph/GraphOppositePinLaw", "draw", "(II)I"⟩ : MethodName)) hown (hw _ (List.mem_of_getElem? (i := 0) rfl)) (hw _ (List.mem_of_getElem? (i := 1) rfl)) (hw _ (List.mem_of_getElem? (i := 2) rfl)) (hw _ (List.mem_of_getElem? (i := 3) rfl)) (by decide) e4 O4 N4 (as' := [(.int i3), (.int v1)]) (ct1 hw hq6) (W := 0) (kc := 0) (ks := 0) rfl rfl (by decide) (by decide) (g := (mkF m 30 #[.val (.int i0), .val (.int i1), .val (.int i2), .val (.int i3), .val (.int i4), .val (.int v1), .val (.int x3), .val (.int x5), .unset, .unset, .unset, .unset, .unset, .unset, .unset] [(.int v1), (.int i3)])) rfl (by rw [hml]; rfl) (rest := []) (lenOf pd_1 rfl) rfl (by show 2 * 0 + _ ≤ _; exact Nat.le_of_eq rfl) (hb hby at_30) (by show _ + 0 ≤ 16; omega) (by show _ + 0 ≤ 128; omega)
  obtain ⟨⟨x9, D8⟩, hq8, hf⟩ := own_bind hf
  obtain ⟨_, rfl, hf⟩ := own_letE hf
  obtain ⟨_, rfl, hf⟩ := own_letE hf
  obtain ⟨T8, h8, L8, X8, e8, O8, N8, st8⟩ := callSW X6 hx hZ (y := (⟨"com/example/sondage/sondage/graph/GraphOppositePinLaw", "other", "(III)I"⟩ : MethodName)) hown (hw _ (List.mem_of_getElem? (i := 5) rfl)) (hw _ (List.mem_of_getElem? (i := 6) rfl)) (hw _ (List.mem_of_getElem? (i := 2) rfl)) (hw _ (List.mem_of_getElem? (i := 7) rfl)) (by decide) e6 O6 N6 (as' := [(.int x7), (.int i4), (.int v1)]) (ct2 hw hq8) (W := 0) (kc := 0) (ks := 0) rfl rfl (by decide) (by decide) (g := (mkF m 41 #[.val (.int i0), .val (.int i1), .val (.int i2), .val (.int i3), .val (.int i4), .val (.int v1), .val (.int x3), .val (.int x5), .val (.int x7), .unset, .unset, .unset, .unset, .unset, .unset] [(.int v1), (.int i4), (.int x7)])) rfl (by rw [hml]; rfl) (rest := []) (lenOf pd_2 rfl) rfl (by show 2 * 0 + _ ≤ _; exact Nat.le_of_eq rfl) (hb hby at_41) (by show _ + 0 ≤ 16; omega) (by show _ + 0 ≤ 128; omega)
  obtain ⟨a10, ha10, hf⟩ := own_letE hf
  obtain ⟨D10, hD10, hf⟩ := own_bind hf
  obtain ⟨T10, h10, X10, e10, O10, st10⟩ := newAW X8 hx hZ (aty := .int) (hw _ (List.mem_of_getElem? (i := 8) rfl)) e8 O8 rfl rfl hD10 (g := (mkF m 47 #[.val (.int i0), .val (.int i1), .val (.int i2), .val (.int i3), .val (.int i4), .val (.int v1), .val (.int x3), .val (.int x5), .val (.int x7), .val (.int x9), .unset, .unset, .unset, .unset, .unset] [(.int (2 : Int32))])) rfl (hb hby at_47) rfl (by decide) (by show _ + 1 ≤ 16; omega) (by show _ + 2 ≤ 128; omega)
  rw [ha10] at st10
  obtain ⟨D11, hq11, hf⟩ := own_bind hf
  obtain ⟨T11, h11, L11, X11, e11, O11, N11, st11⟩ := stIW X10 hx hZ e10 O10 N8 hq11 rfl (g := (mkF m 53 #[.val (.int i0), .val (.int i1), .val (.int i2), .val (.int i3), .val (.int i4), .val (.int v1), .val (.int x3), .val (.int x5), .val (.int x7), .val (.int x9), .unset, .unset, .unset, .unset, .unset] [(.int x3), (.int (0 : Int32)), (.ref (n0 + a10)), (.ref (n0 + a10))])) rfl rfl (hb hby at_53)
  obtain ⟨D12, hq12, hf⟩ := own_bind hf
  obtain ⟨T12, h12, L12, X12, e12, O12, N12, st12⟩ := stIW X11 hx hZ e11 O11 N11 hq12 rfl (g := (mkF m 58 #[.val (.int i0), .val (.int i1), .val (.int i2), .val (.int i3), .val (.int i4), .val (.int v1), .val (.int x3), .val (.int x5), .val (.int x7), .val (.int x9), .unset, .unset, .unset, .unset, .unset] [(.int x7), (.int (1 : Int32)), (.ref (n0 + a10)), (.ref (n0 + a10))])) rfl rfl (hb hby at_58)
  obtain ⟨a13, ha13, hf⟩ := own_letE hf
  obtain ⟨D13, hD13, hf⟩ := own_bind hf
  obtain ⟨T13, h13, X13, e13, O13, st13⟩ := newAW X12 hx hZ (aty := .int) (hw _ (List.mem_of_getElem? (i := 8) rfl)) e12 O12 rfl rfl hD13 (g := (mkF m 62 #[.val (.int i0), .val (.int i1), .val (.int i2), .val (.int i3), .val (.int i4), .val (.int v1), .val (.int x3), .val (.int x5), .val (.int x7), .val (.int x9), .val (.ref (n0 + a10)), .unset, .unset, .unset, .unset] [(.int (2 : Int32))])) rfl (hb hby at_62) rfl (by decide) (by show _ + 1 ≤ 16; omega) (by show _ + 2 ≤ 128; omega)
  rw [ha13] at st13
  obtain ⟨D14, hq14, hf⟩ := own_bind hf
  obtain ⟨T14, h14, L14, X14, e14, O14, N14, st14⟩ := stIW X13 hx hZ e13 O13 N12 hq14 rfl (g := (mkF m 68 #[.val (.int i0), .val (.int i1), .val (.int i2), .val (.int i3), .val (.int i4), .val (.int v1), .val (.int x3), .val (.int x5), .val (.int x7), .val (.int x9), .val (.ref (n0 + a10)), .unset, .unset, .unset, .unset] [(.int x5), (.int (0 : Int32)), (.ref (n0 + a13)), (.ref (n0 + a13))])) rfl rfl (hb hby at_68)
  obtain ⟨D15, hq15, hf⟩ := own_bind hf
  obtain ⟨T15, h15, L15, X15, e15, O15, N15, st15⟩ := stIW X14 hx hZ e14 O14 N14 hq15 rfl (g := (mkF m 73 #[.val (.int i0), .val (.int i1), .val (.int i2), .val (.int i3), .val (.int i4), .val (.int v1), .val (.int x3), .val (.int x5), .val (.int x7), .val (.int x9), .val (.ref (n0 + a10)), .unset, .unset, .unset, .unset] [(.int x9), (.int (1 : Int32)), (.ref (n0 + a13)), (.ref (n0 + a13))])) rfl rfl (hb hby at_73)
  obtain ⟨a16, ha16, hf⟩ := own_letE hf
  obtain ⟨D16, hD16, hf⟩ := own_letE hf
  obtain ⟨T16, h16, X16, e16, O16, st16⟩ := newW X15 hx hZ hown (hw _ (List.mem_of_getElem? (i := 9) rfl)) (hw _ (List.mem_of_getElem? (i := 10) rfl)) (hw _ (List.mem_of_getElem? (i := 11) rfl)) (lay1 hw) e15 O15 (t := 1) rfl (ds := [(.int (0 : Int32)), .null]) (by decide) (g := (mkF m 76 #[.val (.int i0), .val (.int i1), .val (.int i2), .val (.int i3), .val (.int i4), .val (.int v1), .val (.int x3), .val (.int x5), .val (.int x7), .val (.int x9), .val (.ref (n0 + a10)), .val (.ref (n0 + a13)), .unset, .unset, .unset] [])) rfl (hb hby at_76) (by show _ + 1 ≤ 16; omega) (by show _ + 2 ≤ 128; omega)
  rw [ha16] at st16
  rw [hD16] at O16
  obtain ⟨D17, hq17, hf⟩ := own_bind hf
  obtain ⟨T17, h17, L17, X17, e17, O17, N17, st17⟩ := callIW X16 hx hZ (y := (⟨"com/example/sondage/sondage/graph/Graph", "<init>", "(I[I[I)V"⟩ : MethodName)) rfl hown (hw _ (List.mem_of_getElem? (i := 12) rfl)) (hw _ (List.mem_of_getElem? (i := 13) rfl)) (hw _ (List.mem_of_getElem? (i := 11) rfl)) (hw _ (List.mem_of_getElem? (i := 14) rfl)) (by decide) e16 O16 N15 (as' := [(.int v1), (.ref (n0 + a10)), (.ref (n0 + a13))]) (ct3 hw hq17) (W := 1) (kc := 1) (ks := 8) rfl rfl (by decide) (by decide) (g := (mkF m 86 #[.val (.int i0), .val (.int i1), .val (.int i2), .val (.int i3), .val (.int i4), .val (.int v1), .val (.int x3), .val (.int x5), .val (.int x7), .val (.int x9), .val (.ref (n0 + a10)), .val (.ref (n0 + a13)), .unset, .unset, .unset] [(.ref (n0 + a13)), (.ref (n0 + a10)), (.int v1), (.ref (n0 + a16)), (.ref (n0 + a16))])) rfl (by rw [hml]; rfl) (rest := [(.ref (n0 + a16))]) (lenOf pd_3 rfl) rfl (by show 2 * 0 + _ ≤ _; exact Nat.le_of_eq rfl) (hb hby at_86) (by show _ + 1 ≤ 16; omega) (by show _ + 8 ≤ 128; omega)
  obtain ⟨u19, hk18, hf⟩ := own_bind hf
  obtain ⟨⟨x20, D18⟩, hq18, hf⟩ := own_bind hf
  obtain ⟨_, rfl, hf⟩ := own_letE hf
  obtain ⟨_, rfl, hf⟩ := own_letE hf
  obtain ⟨T18, h18, L18, X18, e18, O18, N18, st18⟩ := callVW X17 hx hZ (y := (⟨"com/example/sondage/sondage/graph/Graph", "opposite", "(II)I"⟩ : MethodName)) hown (hw _ (List.mem_of_getElem? (i := 26) rfl)) (hw _ (List.mem_of_getElem? (i := 27) rfl)) (hw _ (List.mem_of_getElem? (i := 29) rfl)) (hw _ (List.mem_of_getElem? (i := 28) rfl)) (hw _ (List.mem_of_getElem? (i := 11) rfl)) (hw _ (List.mem_of_getElem? (i := 30) rfl)) (by decide) e17 O17 N17 hk18 rfl (as' := [(.int (0 : Int32)), (.int x3)]) (ct6 hw hq18) (W := 0) (kc := 0) (ks := 0) rfl rfl (by decide) (by decide) (g := (mkF m 96 #[.val (.int i0), .val (.int i1), .val (.int i2), .val (.int i3), .val (.int i4), .val (.int v1), .val (.int x3), .val (.int x5), .val (.int x7), .val (.int x9), .val (.ref (n0 + a10)), .val (.ref (n0 + a13)), .val (.ref (n0 + a16)), .unset, .unset] [(.int x3), (.int (0 : Int32)), (.ref (n0 + a16))])) rfl (by rw [hml]; rfl) (rest := []) (lenOf pd_1 rfl) rfl (by show 2 * 0 + _ ≤ _; exact Nat.le_of_eq rfl) (hb hby at_96) (by show _ + 0 ≤ 16; omega) (by show _ + 0 ≤ 128; omega)
  refine Gl.on (B := T18.setTop (mkF m 101 #[.val (.int i0), .val (.int i1), .val (.int i2), .val (.int i3), .val (.int i4), .val (.int v1), .val (.int x3), .val (.int x5), .val (.int x7), .val (.int x9), .val (.ref (n0 + a10)), .val (.ref (n0 + a13)), .val (.ref (n0 + a16)), .unset, .unset] [(.int x5), (.int x20)])) (fun t k => ?_) ?_
  · show Steps p.tables e below (T0.setTop (mkF m 0 #[.val (.int i0), .val (.int i1), .val (.int i2), .val (.int i3), .val (.int i4), .unset, .unset, .unset, .unset, .unset, .unset, .unset, .unset, .unset, .unset] [])) _
    refine XS.iloadN X0.here hx rfl (hb hby at_0) rfl ?_
    show Steps p.tables e below (T0.setTop (mkF m 1 #[.val (.int i0), .val (.int i1), .val (.int i2), .val (.int i3), .val (.int i4), .unset, .unset, .unset, .unset, .unset, .unset, .unset, .unset, .unset, .unset] [(.int i0)])) _
    refine XS.sipush X0.here hx rfl (hb hby at_1) ?_
    show Steps p.tables e below (T0.setTop (mkF m 4 #[.val (.int i0), .val (.int i1), .val (.int i2), .val (.int i3), .val (.int i4), .unset, .unset, .unset, .unset, .unset, .unset, .unset, .unset, .unset, .unset] [(.int (1023 : Int32)), (.int i0)])) _
    refine XS.iand X0.here hx rfl (hb hby at_4) rfl ?_
    show Steps p.tables e below (T0.setTop (mkF m 5 #[.val (.int i0), .val (.int i1), .val (.int i2), .val (.int i3), .val (.int i4), .unset, .unset, .unset, .unset, .unset, .unset, .unset, .unset, .unset, .unset] [(.int (i0 &&& (1023 : Int32)))])) _
    refine XS.iconst X0.here hx rfl (hb hby at_5) ?_
    show Steps p.tables e below (T0.setTop (mkF m 6 #[.val (.int i0), .val (.int i1), .val (.int i2), .val (.int i3), .val (.int i4), .unset, .unset, .unset, .unset, .unset, .unset, .unset, .unset, .unset, .unset] [(.int (2 : Int32)), (.int (i0 &&& (1023 : Int32)))])) _
    refine XS.iadd X0.here hx rfl (hb hby at_6) rfl ?_
    show Steps p.tables e below (T0.setTop (mkF m 7 #[.val (.int i0), .val (.int i1), .val (.int i2), .val (.int i3), .val (.int i4), .unset, .unset, .unset, .unset, .unset, .unset, .unset, .unset, .unset, .unset] [(.int ((i0 &&& (1023 : Int32)) + (2 : Int32)))])) _
    refine own_to (congrArg (fun z => T0.setTop (mkF m 7 #[.val (.int i0), .val (.int i1), .val (.int i2), .val (.int i3), .val (.int i4), .unset, .unset, .unset, .unset, .unset, .unset, .unset, .unset, .unset, .unset] [(.int z)])) hv1) ?_
    show Steps p.tables e below (T0.setTop (mkF m 7 #[.val (.int i0), .val (.int i1), .val (.int i2), .val (.int i3), .val (.int i4), .unset, .unset, .unset, .unset, .unset, .unset, .unset, .unset, .unset, .unset] [(.int v1)])) _
    refine XS.istore X0.here hx rfl (hb hby at_7) rfl (l' := #[.val (.int i0), .val (.int i1), .val (.int i2), .val (.int i3), .val (.int i4), .val (.int v1), .unset, .unset, .unset, .unset, .unset, .unset, .unset, .unset, .unset]) rfl ?_
    show Steps p.tables e below (T0.setTop (mkF m 9 #[.val (.int i0), .val (.int i1), .val (.int i2), .val (.int i3), .val (.int i4), .val (.int v1), .unset, .unset, .unset, .unset, .unset, .unset, .unset, .unset, .unset] [])) _
    refine XS.iloadN X0.here hx rfl (hb hby at_9) rfl ?_
    show Steps p.tables e below (T0.setTop (mkF m 10 #[.val (.int i0), .val (.int i1), .val (.int i2), .val (.int i3), .val (.int i4), .val (.int v1), .unset, .unset, .unset, .unset, .unset, .unset, .unset, .unset, .unset] [(.int i1)])) _
    refine XS.iload X0.here hx rfl (hb hby at_10) rfl ?_
    show Steps p.tables e below (T0.setTop (mkF m 12 #[.val (.int i0), .val (.int i1), .val (.int i2), .val (.int i3), .val (.int i4), .val (.int v1), .unset, .unset, .unset, .unset, .unset, .unset, .unset, .unset, .unset] [(.int v1), (.int i1)])) _
    refine st2 _ ?_
    show Steps p.tables e below (T2.setTop (mkF m 15 #[.val (.int i0), .val (.int i1), .val (.int i2), .val (.int i3), .val (.int i4), .val (.int v1), .unset, .unset, .unset, .unset, .unset, .unset, .unset, .unset, .unset] [(.int x3)])) _
    refine XS.istore X2.here hx rfl (hb hby at_15) rfl (l' := #[.val (.int i0), .val (.int i1), .val (.int i2), .val (.int i3), .val (.int i4), .val (.int v1), .val (.int x3), .unset, .unset, .unset, .unset, .unset, .unset, .unset, .unset]) rfl ?_
    show Steps p.tables e below (T2.setTop (mkF m 17 #[.val (.int i0), .val (.int i1), .val (.int i2), .val (.int i3), .val (.int i4), .val (.int v1), .val (.int x3), .unset, .unset, .unset, .unset, .unset, .unset, .unset, .unset] [])) _
    refine XS.iload X2.here hx rfl (hb hby at_17) rfl ?_
    show Steps p.tables e below (T2.setTop (mkF m 19 #[.val (.int i0), .val (.int i1), .val (.int i2), .val (.int i3), .val (.int i4), .val (.int v1), .val (.int x3), .unset, .unset, .unset, .unset, .unset, .unset, .unset, .unset] [(.int x3)])) _
    refine XS.iloadN X2.here hx rfl (hb hby at_19) rfl ?_
    show Steps p.tables e below (T2.setTop (mkF m 20 #[.val (.int i0), .val (.int i1), .val (.int i2), .val (.int i3), .val (.int i4), .val (.int v1), .val (.int x3), .unset, .unset, .unset, .unset, .unset, .unset, .unset, .unset] [(.int i2), (.int x3)])) _
    refine XS.iload X2.here hx rfl (hb hby at_20) rfl ?_
    show Steps p.tables e below (T2.setTop (mkF m 22 #[.val (.int i0), .val (.int i1), .val (.int i2), .val (.int i3), .val (.int i4), .val (.int v1), .val (.int x3), .unset, .unset, .unset, .unset, .unset, .unset, .unset, .unset] [(.int v1), (.int i2), (.int x3)])) _
    refine st4 _ ?_
    show Steps p.tables e below (T4.setTop (mkF m 25 #[.val (.int i0), .val (.int i1), .val (.int i2), .val (.int i3), .val (.int i4), .val (.int v1), .val (.int x3), .unset, .unset, .unset, .unset, .unset, .unset, .unset, .unset] [(.int x5)])) _
    refine XS.istore X4.here hx rfl (hb hby at_25) rfl (l' := #[.val (.int i0), .val (.int i1), .val (.int i2), .val (.int i3), .val (.int i4), .val (.int v1), .val (.int x3), .val (.int x5), .unset, .unset, .unset, .unset, .unset, .unset, .unset]) rfl ?_
    show Steps p.tables e below (T4.setTop (mkF m 27 #[.val (.int i0), .val (.int i1), .val (.int i2), .val (.int i3), .val (.int i4), .val (.int v1), .val (.int x3), .val (.int x5), .unset, .unset, .unset, .unset, .unset, .unset, .unset] [])) _
    refine XS.iloadN X4.here hx rfl (hb hby at_27) rfl ?_
    show Steps p.tables e below (T4.setTop (mkF m 28 #[.val (.int i0), .val (.int i1), .val (.int i2), .val (.int i3), .val (.int i4), .val (.int v1), .val (.int x3), .val (.int x5), .unset, .unset, .unset, .unset, .unset, .unset, .unset] [(.int i3)])) _
    refine XS.iload X4.here hx rfl (hb hby at_28) rfl ?_
    show Steps p.tables e below (T4.setTop (mkF m 30 #[.val (.int i0), .val (.int i1), .val (.int i2), .val (.int i3), .val (.int i4), .val (.int v1), .val (.int x3), .val (.int x5), .unset, .unset, .unset, .unset, .unset, .unset, .unset] [(.int v1), (.int i3)])) _
    refine st6 _ ?_
    show Steps p.tables e below (T6.setTop (mkF m 33 #[.val (.int i0), .val (.int i1), .val (.int i2), .val (.int i3), .val (.int i4), .val (.int v1), .val (.int x3), .val (.int x5), .unset, .unset, .unset, .unset, .unset, .unset, .unset] [(.int x7)])) _
    refine XS.istore X6.here hx rfl (hb hby at_33) rfl (l' := #[.val (.int i0), .val (.int i1), .val (.int i2), .val (.int i3), .val (.int i4), .val (.int v1), .val (.int x3), .val (.int x5), .val (.int x7), .unset, .unset, .unset, .unset, .unset, .unset]) rfl ?_
    show Steps p.tables e below (T6.setTop (mkF m 35 #[.val (.int i0), .val (.int i1), .val (.int i2), .val (.int i3), .val (.int i4), .val (.int v1), .val (.int x3), .val (.int x5), .val (.int x7), .unset, .unset, .unset, .unset, .unset, .unset] [])) _
    refine XS.iload X6.here hx rfl (hb hby at_35) rfl ?_
    show Steps p.tables e below (T6.setTop (mkF m 37 #[.val (.int i0), .val (.int i1), .val (.int i2), .val (.int i3), .val (.int i4), .val (.int v1), .val (.int x3), .val (.int x5), .val (.int x7), .unset, .unset, .unset, .unset, .unset, .unset] [(.int x7)])) _
    refine XS.iload X6.here hx rfl (hb hby at_37) rfl ?_
    show Steps p.tables e below (T6.setTop (mkF m 39 #[.val (.int i0), .val (.int i1), .val (.int i2), .val (.int i3), .val (.int i4), .val (.int v1), .val (.int x3), .val (.int x5), .val (.int x7), .unset, .unset, .unset, .unset, .unset, .unset] [(.int i4), (.int x7)])) _
    refine XS.iload X6.here hx rfl (hb hby at_39) rfl ?_
    show Steps p.tables e below (T6.setTop (mkF m 41 #[.val (.int i0), .val (.int i1), .val (.int i2), .val (.int i3), .val (.int i4), .val (.int v1), .val (.int x3), .val (.int x5), .val (.int x7), .unset, .unset, .unset, .unset, .unset, .unset] [(.int v1), (.int i4), (.int x7)])) _
    refine st8 _ ?_
    show Steps p.tables e below (T8.setTop (mkF m 44 #[.val (.int i0), .val (.int i1), .val (.int i2), .val (.int i3), .val (.int i4), .val (.int v1), .val (.int x3), .val (.int x5), .val (.int x7), .unset, .unset, .unset, .unset, .unset, .unset] [(.int x9)])) _
    refine XS.istore X8.here hx rfl (hb hby at_44) rfl (l' := #[.val (.int i0), .val (.int i1), .val (.int i2), .val (.int i3), .val (.int i4), .val (.int v1), .val (.int x3), .val (.int x5), .val (.int x7), .val (.int x9), .unset, .unset, .unset, .unset, .unset]) rfl ?_
    show Steps p.tables e below (T8.setTop (mkF m 46 #[.val (.int i0), .val (.int i1), .val (.int i2), .val (.int i3), .val (.int i4), .val (.int v1), .val (.int x3), .val (.int x5), .val (.int x7), .val (.int x9), .unset, .unset, .unset, .unset, .unset] [])) _
    refine XS.iconst X8.here hx rfl (hb hby at_46) ?_
    show Steps p.tables e below (T8.setTop (mkF m 47 #[.val (.int i0), .val (.int i1), .val (.int i2), .val (.int i3), .val (.int i4), .val (.int v1), .val (.int x3), .val (.int x5), .val (.int x7), .val (.int x9), .unset, .unset, .unset, .unset, .unset] [(.int (2 : Int32))])) _
    refine st10 _ ?_
    show Steps p.tables e below (T10.setTop (mkF m 49 #[.val (.int i0), .val (.int i1), .val (.int i2), .val (.int i3), .val (.int i4), .val (.int v1), .val (.int x3), .val (.int x5), .val (.int x7), .val (.int x9), .unset, .unset, .unset, .unset, .unset] [(.ref (n0 + a10))])) _
    refine XS.dup X10.here hx rfl (hb hby at_49) rfl rfl ?_
    show Steps p.tables e below (T10.setTop (mkF m 50 #[.val (.int i0), .val (.int i1), .val (.int i2), .val (.int i3), .val (.int i4), .val (.int v1), .val (.int x3), .val (.int x5), .val (.int x7), .val (.int x9), .unset, .unset, .unset, .unset, .unset] [(.ref (n0 + a10)), (.ref (n0 + a10))])) _
    refine XS.iconst X10.here hx rfl (hb hby at_50) ?_
    show Steps p.tables e below (T10.setTop (mkF m 51 #[.val (.int i0), .val (.int i1), .val (.int i2), .val (.int i3), .val (.int i4), .val (.int v1), .val (.int x3), .val (.int x5), .val (.int x7), .val (.int x9), .unset, .unset, .unset, .unset, .unset] [(.int (0 : Int32)), (.ref (n0 + a10)), (.ref (n0 + a10))])) _
    refine XS.iload X10.here hx rfl (hb hby at_51) rfl ?_
    show Steps p.tables e below (T10.setTop (mkF m 53 #[.val (.int i0), .val (.int i1), .val (.int i2), .val (.int i3), .val (.int i4), .val (.int v1), .val (.int x3), .val (.int x5), .val (.int x7), .val (.int x9), .unset, .unset, .unset, .unset, .unset] [(.int x3), (.int (0 : Int32)), (.ref (n0 + a10)), (.ref (n0 + a10))])) _
    refine st11 _ ?_
    show Steps p.tables e below (T11.setTop (mkF m 54 #[.val (.int i0), .val (.int i1), .val (.int i2), .val (.int i3), .val (.int i4), .val (.int v1), .val (.int x3), .val (.int x5), .val (.int x7), .val (.int x9), .unset, .unset, .unset, .unset, .unset] [(.ref (n0 + a10))])) _
    refine XS.dup X11.here hx rfl (hb hby at_54) rfl rfl ?_
    show Steps p.tables e below (T11.setTop (mkF m 55 #[.val (.int i0), .val (.int i1), .val (.int i2), .val (.int i3), .val (.int i4), .val (.int v1), .val (.int x3), .val (.int x5), .val (.int x7), .val (.int x9), .unset, .unset, .unset, .unset, .unset] [(.ref (n0 + a10)), (.ref (n0 + a10))])) _
    refine XS.iconst X11.here hx rfl (hb hby at_55) ?_
    show Steps p.tables e below (T11.setTop (mkF m 56 #[.val (.int i0), .val (.int i1), .val (.int i2), .val (.int i3), .val (.int i4), .val (.int v1), .val (.int x3), .val (.int x5), .val (.int x7), .val (.int x9), .unset, .unset, .unset, .unset, .unset] [(.int (1 : Int32)), (.ref (n0 + a10)), (.ref (n0 + a10))])) _
    refine XS.iload X11.here hx rfl (hb hby at_56) rfl ?_
    show Steps p.tables e below (T11.setTop (mkF m 58 #[.val (.int i0), .val (.int i1), .val (.int i2), .val (.int i3), .val (.int i4), .val (.int v1), .val (.int x3), .val (.int x5), .val (.int x7), .val (.int x9), .unset, .unset, .unset, .unset, .unset] [(.int x7), (.int (1 : Int32)), (.ref (n0 + a10)), (.ref (n0 + a10))])) _
    refine st12 _ ?_
    show Steps p.tables e below (T12.setTop (mkF m 59 #[.val (.int i0), .val (.int i1), .val (.int i2), .val (.int i3), .val (.int i4), .val (.int v1), .val (.int x3), .val (.int x5), .val (.int x7), .val (.int x9), .unset, .unset, .unset, .unset, .unset] [(.ref (n0 + a10))])) _
    refine XS.astore X12.here hx rfl (hb hby at_59) rfl rfl (l' := #[.val (.int i0), .val (.int i1), .val (.int i2), .val (.int i3), .val (.int i4), .val (.int v1), .val (.int x3), .val (.int x5), .val (.int x7), .val (.int x9), .val (.ref (n0 + a10)), .unset, .unset, .unset, .unset]) rfl ?_
    show Steps p.tables e below (T12.setTop (mkF m 61 #[.val (.int i0), .val (.int i1), .val (.int i2), .val (.int i3), .val (.int i4), .val (.int v1), .val (.int x3), .val (.int x5), .val (.int x7), .val (.int x9), .val (.ref (n0 + a10)), .unset, .unset, .unset, .unset] [])) _
    refine XS.iconst X12.here hx rfl (hb hby at_61) ?_
    show Steps p.tables e below (T12.setTop (mkF m 62 #[.val (.int i0), .val (.int i1), .val (.int i2), .val (.int i3), .val (.int i4), .val (.int v1), .val (.int x3), .val (.int x5), .val (.int x7), .val (.int x9), .val (.ref (n0 + a10)), .unset, .unset, .unset, .unset] [(.int (2 : Int32))])) _
    refine st13 _ ?_
    show Steps p.tables e below (T13.setTop (mkF m 64 #[.val (.int i0), .val (.int i1), .val (.int i2), .val (.int i3), .val (.int i4), .val (.int v1), .val (.int x3), .val (.int x5), .val (.int x7), .val (.int x9), .val (.ref (n0 + a10)), .unset, .unset, .unset, .unset] [(.ref (n0 + a13))])) _
    refine XS.dup X13.here hx rfl (hb hby at_64) rfl rfl ?_
    show Steps p.tables e below (T13.setTop (mkF m 65 #[.val (.int i0), .val (.int i1), .val (.int i2), .val (.int i3), .val (.int i4), .val (.int v1), .val (.int x3), .val (.int x5), .val (.int x7), .val (.int x9), .val (.ref (n0 + a10)), .unset, .unset, .unset, .unset] [(.ref (n0 + a13)), (.ref (n0 + a13))])) _
    refine XS.iconst X13.here hx rfl (hb hby at_65) ?_
    show Steps p.tables e below (T13.setTop (mkF m 66 #[.val (.int i0), .val (.int i1), .val (.int i2), .val (.int i3), .val (.int i4), .val (.int v1), .val (.int x3), .val (.int x5), .val (.int x7), .val (.int x9), .val (.ref (n0 + a10)), .unset, .unset, .unset, .unset] [(.int (0 : Int32)), (.ref (n0 + a13)), (.ref (n0 + a13))])) _
    refine XS.iload X13.here hx rfl (hb hby at_66) rfl ?_
    show Steps p.tables e below (T13.setTop (mkF m 68 #[.val (.int i0), .val (.int i1), .val (.int i2), .val (.int i3), .val (.int i4), .val (.int v1), .val (.int x3), .val (.int x5), .val (.int x7), .val (.int x9), .val (.ref (n0 + a10)), .unset, .unset, .unset, .unset] [(.int x5), (.int (0 : Int32)), (.ref (n0 + a13)), (.ref (n0 + a13))])) _
    refine st14 _ ?_
    show Steps p.tables e below (T14.setTop (mkF m 69 #[.val (.int i0), .val (.int i1), .val (.int i2), .val (.int i3), .val (.int i4), .val (.int v1), .val (.int x3), .val (.int x5), .val (.int x7), .val (.int x9), .val (.ref (n0 + a10)), .unset, .unset, .unset, .unset] [(.ref (n0 + a13))])) _
    refine XS.dup X14.here hx rfl (hb hby at_69) rfl rfl ?_
    show Steps p.tables e below (T14.setTop (mkF m 70 #[.val (.int i0), .val (.int i1), .val (.int i2), .val (.int i3), .val (.int i4), .val (.int v1), .val (.int x3), .val (.int x5), .val (.int x7), .val (.int x9), .val (.ref (n0 + a10)), .unset, .unset, .unset, .unset] [(.ref (n0 + a13)), (.ref (n0 + a13))])) _
    refine XS.iconst X14.here hx rfl (hb hby at_70) ?_
    show Steps p.tables e below (T14.setTop (mkF m 71 #[.val (.int i0), .val (.int i1), .val (.int i2), .val (.int i3), .val (.int i4), .val (.int v1), .val (.int x3), .val (.int x5), .val (.int x7), .val (.int x9), .val (.ref (n0 + a10)), .unset, .unset, .unset, .unset] [(.int (1 : Int32)), (.ref (n0 + a13)), (.ref (n0 + a13))])) _
    refine XS.iload X14.here hx rfl (hb hby at_71) rfl ?_
    show Steps p.tables e below (T14.setTop (mkF m 73 #[.val (.int i0), .val (.int i1), .val (.int i2), .val (.int i3), .val (.int i4), .val (.int v1), .val (.int x3), .val (.int x5), .val (.int x7), .val (.int x9), .val (.ref (n0 + a10)), .unset, .unset, .unset, .unset] [(.int x9), (.int (1 : Int32)), (.ref (n0 + a13)), (.ref (n0 + a13))])) _
    refine st15 _ ?_
    show Steps p.tables e below (T15.setTop (mkF m 74 #[.val (.int i0), .val (.int i1), .val (.int i2), .val (.int i3), .val (.int i4), .val (.int v1), .val (.int x3), .val (.int x5), .val (.int x7), .val (.int x9), .val (.ref (n0 + a10)), .unset, .unset, .unset, .unset] [(.ref (n0 + a13))])) _
    refine XS.astore X15.here hx rfl (hb hby at_74) rfl rfl (l' := #[.val (.int i0), .val (.int i1), .val (.int i2), .val (.int i3), .val (.int i4), .val (.int v1), .val (.int x3), .val (.int x5), .val (.int x7), .val (.int x9), .val (.ref (n0 + a10)), .val (.ref (n0 + a13)), .unset, .unset, .unset]) rfl ?_
    show Steps p.tables e below (T15.setTop (mkF m 76 #[.val (.int i0), .val (.int i1), .val (.int i2), .val (.int i3), .val (.int i4), .val (.int v1), .val (.int x3), .val (.int x5), .val (.int x7), .val (.int x9), .val (.ref (n0 + a10)), .val (.ref (n0 + a13)), .unset, .unset, .unset] [])) _
    refine st16 _ ?_
    show Steps p.tables e below (T16.setTop (mkF m 79 #[.val (.int i0), .val (.int i1), .val (.int i2), .val (.int i3), .val (.int i4), .val (.int v1), .val (.int x3), .val (.int x5), .val (.int x7), .val (.int x9), .val (.ref (n0 + a10)), .val (.ref (n0 + a13)), .unset, .unset, .unset] [(.ref (n0 + a16))])) _
    refine XS.dup X16.here hx rfl (hb hby at_79) rfl rfl ?_
    show Steps p.tables e below (T16.setTop (mkF m 80 #[.val (.int i0), .val (.int i1), .val (.int i2), .val (.int i3), .val (.int i4), .val (.int v1), .val (.int x3), .val (.int x5), .val (.int x7), .val (.int x9), .val (.ref (n0 + a10)), .val (.ref (n0 + a13)), .unset, .unset, .unset] [(.ref (n0 + a16)), (.ref (n0 + a16))])) _
    refine XS.iload X16.here hx rfl (hb hby at_80) rfl ?_
    show Steps p.tables e below (T16.setTop (mkF m 82 #[.val (.int i0), .val (.int i1), .val (.int i2), .val (.int i3), .val (.int i4), .val (.int v1), .val (.int x3), .val (.int x5), .val (.int x7), .val (.int x9), .val (.ref (n0 + a10)), .val (.ref (n0 + a13)), .unset, .unset, .unset] [(.int v1), (.ref (n0 + a16)), (.ref (n0 + a16))])) _
    refine XS.aload X16.here hx rfl (hb hby at_82) rfl rfl ?_
    show Steps p.tables e below (T16.setTop (mkF m 84 #[.val (.int i0), .val (.int i1), .val (.int i2), .val (.int i3), .val (.int i4), .val (.int v1), .val (.int x3), .val (.int x5), .val (.int x7), .val (.int x9), .val (.ref (n0 + a10)), .val (.ref (n0 + a13)), .unset, .unset, .unset] [(.ref (n0 + a10)), (.int v1), (.ref (n0 + a16)), (.ref (n0 + a16))])) _
    refine XS.aload X16.here hx rfl (hb hby at_84) rfl rfl ?_
    show Steps p.tables e below (T16.setTop (mkF m 86 #[.val (.int i0), .val (.int i1), .val (.int i2), .val (.int i3), .val (.int i4), .val (.int v1), .val (.int x3), .val (.int x5), .val (.int x7), .val (.int x9), .val (.ref (n0 + a10)), .val (.ref (n0 + a13)), .unset, .unset, .unset] [(.ref (n0 + a13)), (.ref (n0 + a10)), (.int v1), (.ref (n0 + a16)), (.ref (n0 + a16))])) _
    refine st17 _ ?_
    show Steps p.tables e below (T17.setTop (mkF m 89 #[.val (.int i0), .val (.int i1), .val (.int i2), .val (.int i3), .val (.int i4), .val (.int v1), .val (.int x3), .val (.int x5), .val (.int x7), .val (.int x9), .val (.ref (n0 + a10)), .val (.ref (n0 + a13)), .unset, .unset, .unset] [(.ref (n0 + a16))])) _
    refine XS.astore X17.here hx rfl (hb hby at_89) rfl rfl (l' := #[.val (.int i0), .val (.int i1), .val (.int i2), .val (.int i3), .val (.int i4), .val (.int v1), .val (.int x3), .val (.int x5), .val (.int x7), .val (.int x9), .val (.ref (n0 + a10)), .val (.ref (n0 + a13)), .val (.ref (n0 + a16)), .unset, .unset]) rfl ?_
    show Steps p.tables e below (T17.setTop (mkF m 91 #[.val (.int i0), .val (.int i1), .val (.int i2), .val (.int i3), .val (.int i4), .val (.int v1), .val (.int x3), .val (.int x5), .val (.int x7), .val (.int x9), .val (.ref (n0 + a10)), .val (.ref (n0 + a13)), .val (.ref (n0 + a16)), .unset, .unset] [])) _
    refine XS.aload X17.here hx rfl (hb hby at_91) rfl rfl ?_
    show Steps p.tables e below (T17.setTop (mkF m 93 #[.val (.int i0), .val (.int i1), .val (.int i2), .val (.int i3), .val (.int i4), .val (.int v1), .val (.int x3), .val (.int x5), .val (.int x7), .val (.int x9), .val (.ref (n0 + a10)), .val (.ref (n0 + a13)), .val (.ref (n0 + a16)), .unset, .unset] [(.ref (n0 + a16))])) _
    refine XS.iconst X17.here hx rfl (hb hby at_93) ?_
    show Steps p.tables e below (T17.setTop (mkF m 94 #[.val (.int i0), .val (.int i1), .val (.int i2), .val (.int i3), .val (.int i4), .val (.int v1), .val (.int x3), .val (.int x5), .val (.int x7), .val (.int x9), .val (.ref (n0 + a10)), .val (.ref (n0 + a13)), .val (.ref (n0 + a16)), .unset, .unset] [(.int (0 : Int32)), (.ref (n0 + a16))])) _
    refine XS.iload X17.here hx rfl (hb hby at_94) rfl ?_
    show Steps p.tables e below (T17.setTop (mkF m 96 #[.val (.int i0), .val (.int i1), .val (.int i2), .val (.int i3), .val (.int i4), .val (.int v1), .val (.int x3), .val (.int x5), .val (.int x7), .val (.int x9), .val (.ref (n0 + a10)), .val (.ref (n0 + a13)), .val (.ref (n0 + a16)), .unset, .unset] [(.int x3), (.int (0 : Int32)), (.ref (n0 + a16))])) _
    refine st18 _ ?_
    show Steps p.tables e below (T18.setTop (mkF m 99 #[.val (.int i0), .val (.int i1), .val (.int i2), .val (.int i3), .val (.int i4), .val (.int v1), .val (.int x3), .val (.int x5), .val (.int x7), .val (.int x9), .val (.ref (n0 + a10)), .val (.ref (n0 + a13)), .val (.ref (n0 + a16)), .unset, .unset] [(.int x20)])) _
    refine XS.iload X18.here hx rfl (hb hby at_99) rfl ?_
    exact k
  by_cases hc21 : x20 = x5
  · rw [if_pos hc21] at hf
    obtain ⟨u23, hk22, hf⟩ := own_bind hf
    obtain ⟨⟨x24, D22⟩, hq22, hf⟩ := own_bind hf
    obtain ⟨_, rfl, hf⟩ := own_letE hf
    obtain ⟨_, rfl, hf⟩ := own_letE hf
    obtain ⟨T22, h22, L22, X22, e22, O22, N22, st22⟩ := callVW X18 hx hZ (y := (⟨"com/example/sondage/sondage/graph/Graph", "opposite", "(II)I"⟩ : MethodName)) hown (hw _ (List.mem_of_getElem? (i := 26) rfl)) (hw _ (List.mem_of_getElem? (i := 27) rfl)) (hw _ (List.mem_of_getElem? (i := 29) rfl)) (hw _ (List.mem_of_getElem? (i := 28) rfl)) (hw _ (List.mem_of_getElem? (i := 11) rfl)) (hw _ (List.mem_of_getElem? (i := 30) rfl)) (by decide) e18 O18 N18 hk22 rfl (as' := [(.int (0 : Int32)), (.int x5)]) (ct6 hw hq22) (W := 0) (kc := 0) (ks := 0) rfl rfl (by decide) (by decide) (g := (mkF m 109 #[.val (.int i0), .val (.int i1), .val (.int i2), .val (.int i3), .val (.int i4), .val (.int v1), .val (.int x3), .val (.int x5), .val (.int x7), .val (.int x9), .val (.ref (n0 + a10)), .val (.ref (n0 + a13)), .val (.ref (n0 + a16)), .unset, .unset] [(.int x5), (.int (0 : Int32)), (.ref (n0 + a16))])) rfl (by rw [hml]; rfl) (rest := []) (lenOf pd_1 rfl) rfl (by show 2 * 0 + _ ≤ _; exact Nat.le_of_eq rfl) (hb hby at_109) (by show _ + 0 ≤ 16; omega) (by show _ + 0 ≤ 128; omega)
    refine Gl.on (B := T22.setTop (mkF m 114 #[.val (.int i0), .val (.int i1), .val (.int i2), .val (.int i3), .val (.int i4), .val (.int v1), .val (.int x3), .val (.int x5), .val (.int x7), .val (.int x9), .val (.ref (n0 + a10)), .val (.ref (n0 + a13)), .val (.ref (n0 + a16)), .unset, .unset] [(.int x3), (.int x24)])) (fun t k => ?_) ?_
    · show Steps p.tables e below (T18.setTop (mkF m 101 #[.val (.int i0), .val (.int i1), .val (.int i2), .val (.int i3), .val (.int i4), .val (.int v1), .val (.int x3), .val (.int x5), .val (.int x7), .val (.int x9), .val (.ref (n0 + a10)), .val (.ref (n0 + a13)), .val (.ref (n0 + a16)), .unset, .unset] [(.int x5), (.int x20)])) _
      refine XS.icmpNo X18.here hx rfl (hb hby at_101) rfl (teq hc21).2 ?_
      show Steps p.tables e below (T18.setTop (mkF m 104 #[.val (.int i0), .val (.int i1), .val (.int i2), .val (.int i3), .val (.int i4), .val (.int v1), .val (.int x3), .val (.int x5), .val (.int x7), .val (.int x9), .val (.ref (n0 + a10)), .val (.ref (n0 + a13)), .val (.ref (n0 + a16)), .unset, .unset] [])) _
      refine XS.aload X18.here hx rfl (hb hby at_104) rfl rfl ?_
      show Steps p.tables e below (T18.setTop (mkF m 106 #[.val (.int i0), .val (.int i1), .val (.int i2), .val (.int i3), .val (.int i4), .val (.int v1), .val (.int x3), .val (.int x5), .val (.int x7), .val (.int x9), .val (.ref (n0 + a10)), .val (.ref (n0 + a13)), .val (.ref (n0 + a16)), .unset, .unset] [(.ref (n0 + a16))])) _
      refine XS.iconst X18.here hx rfl (hb hby at_106) ?_
      show Steps p.tables e below (T18.setTop (mkF m 107 #[.val (.int i0), .val (.int i1), .val (.int i2), .val (.int i3), .val (.int i4), .val (.int v1), .val (.int x3), .val (.int x5), .val (.int x7), .val (.int x9), .val (.ref (n0 + a10)), .val (.ref (n0 + a13)), .val (.ref (n0 + a16)), .unset, .unset] [(.int (0 : Int32)), (.ref (n0 + a16))])) _
      refine XS.iload X18.here hx rfl (hb hby at_107) rfl ?_
      show Steps p.tables e below (T18.setTop (mkF m 109 #[.val (.int i0), .val (.int i1), .val (.int i2), .val (.int i3), .val (.int i4), .val (.int v1), .val (.int x3), .val (.int x5), .val (.int x7), .val (.int x9), .val (.ref (n0 + a10)), .val (.ref (n0 + a13)), .val (.ref (n0 + a16)), .unset, .unset] [(.int x5), (.int (0 : Int32)), (.ref (n0 + a16))])) _
      refine st22 _ ?_
      show Steps p.tables e below (T22.setTop (mkF m 112 #[.val (.int i0), .val (.int i1), .val (.int i2), .val (.int i3), .val (.int i4), .val (.int v1), .val (.int x3), .val (.int x5), .val (.int x7), .val (.int x9), .val (.ref (n0 + a10)), .val (.ref (n0 + a13)), .val (.ref (n0 + a16)), .unset, .unset] [(.int x24)])) _
      refine XS.iload X22.here hx rfl (hb hby at_112) rfl ?_
      exact k
    by_cases hc25 : x24 = x3
    · rw [if_pos hc25] at hf
      refine Gl.on (B := T22.setTop (mkF m 122 #[.val (.int i0), .val (.int i1), .val (.int i2), .val (.int i3), .val (.int i4), .val (.int v1), .val (.int x3), .val (.int x5), .val (.int x7), .val (.int x9), .val (.ref (n0 + a10)), .val (.ref (n0 + a13)), .val (.ref (n0 + a16)), .unset, .unset] [(.int (1 : Int32))])) (fun t k => ?_) ?_
      · show Steps p.tables e below (T22.setTop (mkF m 114 #[.val (.int i0), .val (.int i1), .val (.int i2), .val (.int i3), .val (.int i4), .val (.int v1), .val (.int x3), .val (.int x5), .val (.int x7), .val (.int x9), .val (.ref (n0 + a10)), .val (.ref (n0 + a13)), .val (.ref (n0 + a16)), .unset, .unset] [(.int x3), (.int x24)])) _
        refine XS.icmpNo X22.here hx rfl (hb hby at_114) rfl (teq hc25).2 ?_
        show Steps p.tables e below (T22.setTop (mkF m 117 #[.val (.int i0), .val (.int i1), .val (.int i2), .val (.int i3), .val (.int i4), .val (.int v1), .val (.int x3), .val (.int x5), .val (.int x7), .val (.int x9), .val (.ref (n0 + a10)), .val (.ref (n0 + a13)), .val (.ref (n0 + a16)), .unset, .unset] [])) _
        refine XS.iconst X22.here hx rfl (hb hby at_117) ?_
        show Steps p.tables e below (T22.setTop (mkF m 118 #[.val (.int i0), .val (.int i1), .val (.int i2), .val (.int i3), .val (.int i4), .val (.int v1), .val (.int x3), .val (.int x5), .val (.int x7), .val (.int x9), .val (.ref (n0 + a10)), .val (.ref (n0 + a13)), .val (.ref (n0 + a16)), .unset, .unset] [(.int (1 : Int32))])) _
        refine XS.goto X22.here hx rfl (pc0 := 118) (pc' := 122) rfl (hb hby at_118) (by decide) (by decide) ?_
        exact k
      exact bt0_122 hw hC X22 e22 O22 N22 (by omega) (by omega) hf
    · rw [if_neg hc25] at hf
      refine Gl.on (B := T22.setTop (mkF m 121 #[.val (.int i0), .val (.int i1), .val (.int i2), .val (.int i3), .val (.int i4), .val (.int v1), .val (.int x3), .val (.int x5), .val (.int x7), .val (.int x9), .val (.ref (n0 + a10)), .val (.ref (n0 + a13)), .val (.ref (n0 + a16)), .unset, .unset] [])) (fun t k => ?_) ?_
      · show Steps p.tables e below (T22.setTop (mkF m 114 #[.val (.int i0), .val (.int i1), .val (.int i2), .val (.int i3), .val (.int i4), .val (.int v1), .val (.int x3), .val (.int x5), .val (.int x7), .val (.int x9), .val (.ref (n0 + a10)), .val (.ref (n0 + a13)), .val (.ref (n0 + a16)), .unset, .unset] [(.int x3), (.int x24)])) _
        refine XS.icmpYes X22.here hx rfl (pc0 := 114) (pc' := 121) rfl (hb hby at_114) rfl (feq hc25).2 (by decide) (by decide) ?_
        exact k
      exact bt0_121 hw hC X22 e22 O22 N22 (by omega) (by omega) hf
  · rw [if_neg hc21] at hf
    refine Gl.on (B := T18.setTop (mkF m 121 #[.val (.int i0), .val (.int i1), .val (.int i2), .val (.int i3), .val (.int i4), .val (.int v1), .val (.int x3), .val (.int x5), .val (.int x7), .val (.int x9), .val (.ref (n0 + a10)), .val (.ref (n0 + a13)), .val (.ref (n0 + a16)), .unset, .unset] [])) (fun t k => ?_) ?_
    · show Steps p.tables e below (T18.setTop (mkF m 101 #[.val (.int i0), .val (.int i1), .val (.int i2), .val (.int i3), .val (.int i4), .val (.int v1), .val (.int x3), .val (.int x5), .val (.int x7), .val (.int x9), .val (.ref (n0 + a10)), .val (.ref (n0 + a13)), .val (.ref (n0 + a16)), .unset, .unset] [(.int x5), (.int x20)])) _
      refine XS.icmpYes X18.here hx rfl (pc0 := 101) (pc' := 121) rfl (hb hby at_101) rfl (feq hc21).2 (by decide) (by decide) ?_
      exact k
    exact bt0_121 hw hC X18 e18 O18 N18 (by omega) (by omega) hf
theorem own_fin (x : Int32) (n : Nat) (h0 : 0 ≤ x.toInt) (h1 : x.toInt < n) : ∃ p : Fin n, x = p.1.toInt32 :=
  ⟨⟨x.toNatClampNeg, by simp only [Int32.toNatClampNeg]; omega⟩, (back32 (by rw [Int32.lt_iff_toInt_lt]; have : (0 : Int32).toInt = 0 := rfl; omega)).1.symm⟩
theorem own_modr (x n : Int32) (hn : 0 < n.toInt) : 0 ≤ ((x &&& (2147483647 : Int32)) % n).toInt ∧ ((x &&& (2147483647 : Int32)) % n).toInt < n.toInt := by
  have e1 := c_and x (2147483647 : Int32) (by decide)
  have e2 := (c_irem (x &&& (2147483647 : Int32)) n n.toInt rfl).1 e1.1
  rw [e2]
  exact ⟨Int.emod_nonneg _ (by omega), Int.emod_lt_of_pos _ hn⟩
theorem own_mm (x n : Int32) (hn : 0 < n.toInt) : ((((x &&& (2147483647 : Int32)) % n) &&& (2147483647 : Int32)) % n) = ((x &&& (2147483647 : Int32)) % n) := by
  obtain ⟨h1, h2⟩ := own_modr x n hn
  have e0 : ((2 ^ 31 : Nat) : Int) = 2147483648 := by decide
  have u := Int32.toInt_lt ((x &&& (2147483647 : Int32)) % n)
  have e1 : (((x &&& (2147483647 : Int32)) % n) &&& (2147483647 : Int32)).toInt = ((x &&& (2147483647 : Int32)) % n).toInt := by
    rw [c_mask _ 2147483647 31 (by decide) (by decide), e0]; omega
  have e2 : (((x &&& (2147483647 : Int32)) % n) &&& (2147483647 : Int32)) = ((x &&& (2147483647 : Int32)) % n) := Int32.toInt_inj.mp e1
  rw [e2]
  apply Int32.toInt_inj.mp
  rw [(c_irem _ n n.toInt rfl).1 h1]
  exact Int.emod_eq_of_lt h1 h2
theorem own_ex {α : Type} {o : Option (Int32 × α)} (h : o.map Prod.fst = some (1 : Int32)) : ∃ D', o = some ((1 : Int32), D') := by
  cases o with
  | none => cases h
  | some q => obtain ⟨x, D⟩ := q; exact ⟨D, by cases h; rfl⟩
theorem own_t2 : Nat.toInt32 2 = (2 : Int32) := rfl
theorem own_f1 (D : Hp) (i n : Int32) (hn : 0 < n.toInt) : ∃ x : Int32, f1 D i n = some (x, D) ∧ 0 ≤ x.toInt ∧ x.toInt < n.toInt := by
  have k0 : (0 : Int32).toInt = 0 := by decide
  have hne : ¬ n = (0 : Int32) := fun h => by rw [h, k0] at hn; omega
  obtain ⟨h1, h2⟩ := own_modr i n hn
  exact ⟨(i &&& (2147483647 : Int32)) % n, by simp only [f1, if_neg hne], h1, h2⟩
theorem own_f2 (D : Hp) (u i n : Int32) (hn : 2 ≤ n.toInt) (hn2 : n.toInt ≤ 1025) (hu : 0 ≤ u.toInt) (hu2 : u.toInt < n.toInt) : ∃ x : Int32, f2 D u i n = some (x, D) ∧ 0 ≤ x.toInt ∧ x.toInt < n.toInt ∧ x.toInt ≠ u.toInt := by
  have k0 : (0 : Int32).toInt = 0 := by decide
  have k1 : (1 : Int32).toInt = 1 := by decide
  have d1 : (n - (1 : Int32)).toInt = n.toInt - 1 := by rw [XT.sub32 (by rw [k1]; constructor <;> omega), k1]
  have hne : ¬ n = (0 : Int32) := fun h => by rw [h, k0] at hn; omega
  have hne1 : ¬ (n - (1 : Int32)) = (0 : Int32) := fun h => by rw [h, k0] at d1; omega
  obtain ⟨h1, h2⟩ := own_modr i (n - (1 : Int32)) (by omega)
  have e1 : (u + (1 : Int32)).toInt = u.toInt + 1 := by rw [XT.add32 (by rw [k1]; constructor <;> omega), k1]
  have e2 : ((u + (1 : Int32)) + ((i &&& (2147483647 : Int32)) % (n - (1 : Int32)))).toInt = u.toInt + 1 + ((i &&& (2147483647 : Int32)) % (n - (1 : Int32))).toInt := by rw [XT.add32 (by rw [e1]; constructor <;> omega), e1]
  have e3 := (c_irem ((u + (1 : Int32)) + ((i &&& (2147483647 : Int32)) % (n - (1 : Int32)))) n n.toInt rfl).1 (by omega)
  refine ⟨((u + (1 : Int32)) + ((i &&& (2147483647 : Int32)) % (n - (1 : Int32)))) % n, by simp only [f2, if_neg hne, if_neg hne1], ?_⟩
  rw [e3, e2]
  generalize ((i &&& (2147483647 : Int32)) % (n - (1 : Int32))).toInt = r at *
  by_cases q : u.toInt + 1 + r < n.toInt
  · rw [Int.emod_eq_of_lt (by omega) q]; omega
  · have : (u.toInt + 1 + r) % n.toInt = u.toInt + 1 + r - n.toInt := by
      rw [← Int.sub_emod_right, Int.emod_eq_of_lt (by omega) (by omega)]
    rw [this]; omega
theorem own_lt {x n : Int32} (h0 : 0 ≤ x.toInt) (h1 : x.toInt < n.toInt) : ¬ x < 0 ∧ x < n := by
  have k0 : (0 : Int32).toInt = 0 := by decide
  rw [Int32.lt_iff_toInt_lt, Int32.lt_iff_toInt_lt, k0]; omega
set_option maxRecDepth 100000 in
theorem law_ok (i0 i1 i2 i3 i4 : Int32) : ∃ D', f0 [] i0 i1 i2 i3 i4 = some ((1 : Int32), D') := by
  have k2 : (2 : Int32).toInt = 2 := by decide
  have e0 : (i0 &&& (1023 : Int32)).toInt = i0.toInt % 1024 := c_mask i0 1023 10 (by decide) (by decide)
  have e1 : ((i0 &&& (1023 : Int32)) + (2 : Int32)).toInt = i0.toInt % 1024 + 2 := by rw [XT.add32 (by rw [k2, e0]; constructor <;> omega), k2, e0]
  generalize hn : (i0 &&& (1023 : Int32)) + (2 : Int32) = n at e1
  obtain ⟨u0, a1, a2, a3⟩ := own_f1 [] i1 n (by omega)
  obtain ⟨v0, b1, b2, b3, b4⟩ := own_f2 [] u0 i2 n (by omega) (by omega) a2 a3
  obtain ⟨u1, c1, c2, c3⟩ := own_f1 [] i3 n (by omega)
  obtain ⟨v1, d1, d2, d3, d4⟩ := own_f2 [] u1 i4 n (by omega) (by omega) c2 c3
  obtain ⟨p1, p2⟩ := own_lt a2 a3
  obtain ⟨p3, p4⟩ := own_lt b2 b3
  obtain ⟨p5, p6⟩ := own_lt c2 c3
  obtain ⟨p7, p8⟩ := own_lt d2 d3
  have q1 : ¬ u0 = v0 := fun h => b4 (by rw [h])
  have q2 : ¬ v0 = u0 := fun h => b4 (by rw [h])
  have q3 : ¬ u1 = v1 := fun h => d4 (by rw [h])
  have q4 : ¬ v1 = u1 := fun h => d4 (by rw [h])
  have q5 : ¬ n < (1 : Int32) := by rw [Int32.lt_iff_toInt_lt]; have : (1 : Int32).toInt = 1 := by decide
                                    omega
  apply own_ex
  simp only [f0, own_let, hn]
  rw [a1, Option.bind_some, b1, Option.bind_some, c1, Option.bind_some, d1, Option.bind_some]
  simp [f3, f5, f6, b3_65, b0_155, b0_154, b0_122, b0_121, own_let, nA, wV, pV, rI, rV, asI, asR, gI, gR, gV, ck, lA, own_t2, p1, p2, p3, p4, p5, p6, p7, p8, q1, q2, q3, q4, q5]
set_option maxRecDepth 65536 in
set_option maxHeartbeats 40000000 in
theorem comes_1 {Post : Tables → Env → Array Value → State → Outcome → State → Prop} (hpost : ∀ tb e args s v u, (limb_1_1.after args s (.returned v) u = true ∧ limb_1_2.after args s (.returned v) u = true ∧ True) → FrameEnd s (.returned v) u (Jvm.fieldLocs frame_1_writes args s ++ Jvm.arrayLocs frame_1_arrays args s ++ Jvm.staticLocs frame_1_statics s) 16 128 → Post tb e args s (.returned v) u) :
    ArmFor flags0 classFile x code maxLocals ret World_1 tables_1 room_1 Calls_1 rest_1 Pre_1 Post := by
  intro l hfl _ _ p e ha hc hk s m args below hf hA hF happ hP
  obtain ⟨hcalls, hrest, hpre⟩ := hP
  obtain ⟨-, -, -, hnamed, -, -, -, hat⟩ := (Spec.applies_iff hf).mp happ
  obtain ⟨hg, hn⟩ := and_e (Cond.before_iff.mp (show (Jvm.Cond.and given_1 narrow_1).before args s = true from hpre))
  obtain ⟨g0, hg⟩ := and_e hg
  obtain ⟨gg0, hg⟩ := and_e hg
  obtain ⟨gg1, hg⟩ := and_e hg
  obtain ⟨gg2, hg⟩ := and_e hg
  obtain ⟨gg3, hg⟩ := and_e hg
  have gg4 := hg
  obtain ⟨w0, w1, w2, w3, w4, rfl⟩ : ∃ w0 w1 w2 w3 w4 : Value, args = #[w0, w1, w2, w3, w4] := by
    have hs : args.size = 5 := by simpa [Cond.value, given_1] using g0
    obtain ⟨L⟩ := args
    match L, hs with
    | [w0, w1, w2, w3, w4], _ => exact ⟨w0, w1, w2, w3, w4, rfl⟩
  have hw := fun d (hd : d ∈ tables_1) => atoms_spec (ws := Jvm.Cond.code x code maxLocals ret :: tables_1) hat d (List.mem_cons_of_mem _ hd)
  obtain ⟨i0, ei0⟩ := is_v gg0
  obtain rfl : w0 = (.int i0) := Option.some.inj ei0
  obtain ⟨i1, ei1⟩ := is_v gg1
  obtain rfl : w1 = (.int i1) := Option.some.inj ei1
  obtain ⟨i2, ei2⟩ := is_v gg2
  obtain rfl : w2 = (.int i2) := Option.some.inj ei2
  obtain ⟨i3, ei3⟩ := is_v gg3
  obtain rfl : w3 = (.int i3) := Option.some.inj ei3
  obtain ⟨i4, ei4⟩ := is_v gg4
  obtain rfl : w4 = (.int i4) := Option.some.inj ei4
  obtain ⟨D', hlaw⟩ := law_ok i0 i1 i2 i3 i4
  obtain ⟨n, o, h1, h2, h3, _, L, rfl, ⟨rfl, N, -⟩, hq⟩ := ct0 (l := l) hw hlaw s.heap tables_1 (own_ow0 s.heap) p e ha hc hk s m _ below hf ((Spec.applies_iff_loose hf).mp happ).1 ⟨rfl, State.Warmed39.refl s, rfl⟩ trivial
  exact ⟨n, _, h1, h2, h3, hpost _ _ _ _ _ _ ⟨Cond.after_iff.mpr rfl, Cond.after_iff.mpr (eq_i res_at (Term.int_eval (1)) rfl), trivial⟩ ⟨hq.1, hq.2.1, (hq.2.2.sift fun y hy => Or.inr (N y hy)).mono (by decide) (by decide)⟩⟩
theorem main_1_1 : Claimed_1_1 := comes_1 fun _ _ _ _ _ _ h hF => ⟨h.1, hF⟩
theorem main_1_2 : Claimed_1_2 := comes_1 fun _ _ _ _ _ _ h hF => ⟨h.2.1, hF⟩
end Jvm.Pilot.@@N@@
namespace Jvm.Pilot.@@N@@
open Jvm Jvm.ClassFile Sem Op Lib Jvm.Free Jvm.Stand Jvm.Pilot.@@N@@.Jvm.D
/-! MADE BY PROGRAM (witnessworld.py) out of the Statement's table words and the real class files: 9 classes; the members and pool entries that the words name. The judged class is class 1, her method 3. -/
namespace start1
open Jvm.ClassFile
def u (s : String) : CpInfo := .utf8 (stringToUtf16 s)
/-- a pool by its gaps: so many unusable entries, then the entry; so many at the end -/
def gap : Nat → List CpInfo → List CpInfo
  | 0, r => r
  | n + 1, r => .unusable :: gap n r
def poolList (es : List (Nat × CpInfo)) (last : Nat) : List CpInfo := es.foldr (fun e r => gap e.1 (e.2 :: r)) (gap last [])
def pool (es : List (Nat × CpInfo)) (last : Nat) : Array CpInfo := ⟨poolList es last⟩
def fileOf (pool : Array CpInfo) (this : Nat) (attrs : Array Attribute := #[]) (ms : Array MethodInfo := #[]) (fl : Nat := 33) (sup : Nat := 0) (ifs : Array Nat := #[]) (fds : Array FieldInfo := #[]) : ClassFile where
  minorVersion := 0
  majorVersion := 65
  constantPool := pool
  accessFlags := fl
  thisClass := this
  superClass := sup
  interfaces := ifs
  fields := fds
  methods := ms
  attributes := attrs
def plain (name : String) (sup : Option ClassId) : Class where
  name := name
  kind := .ordinary
  loader := none
  accessFlags := 33
  super := sup
  interfaces := #[]
  cf := none
  fields := #[]
  methods := #[]
  instanceTypes := #[]
  staticTypes := #[]
  resolved := #[]
  callSites := []
  init := .initialized
  statics := none
  mirror := none

def pool0 : Array CpInfo := pool [(5, u "<init>"), (0, u "()V"), (1, .class_ 10), (1, u "java/lang/Object")] 113

def k0c0 : Code := { maxStack := 0, maxLocals := 1, code := object_method_1_code, exceptionTable := #[], attributes := #[] }
def k0m0 : Method := { name := "<init>", desc := "()V", sig := { parameters := [], returnType := none }, accessFlags := 1, code := some k0c0 }
/-- java/lang/Object -/
def k0 : Class := { plain "java/lang/Object" none with
  accessFlags := 33
  interfaces := #[]
  cf := some (fileOf pool0 8 #[] #[{ accessFlags := 1, nameIndex := 5, descriptorIndex := 6, attributes := #[] }] 33 0 #[] #[])
  fields := #[]
  methods := #[k0m0]
  instanceTypes := #[]
  staticTypes := #[]
  resolved := Array.replicate 124 none
  statics := none }

def pool1 : Array CpInfo := pool [(2, .class_ 4), (1, u "java/lang/Object"), (0, u "<init>"), (0, u "()V"), (0, .integer 2147483647), (0, .methodref 9 10), (0, .class_ 11), (0, .nameAndType 12 13), (0, u "com/example/sondage/sondage/graph/GraphOppositePinLaw"), (0, u "draw"), (0, u "(II)I"), (0, .methodref 9 15), (0, .nameAndType 16 17), (0, u "other"), (0, u "(III)I"), (0, .class_ 19), (0, u "com/example/sondage/sondage/graph/Graph"), (0, .methodref 18 21), (0, .nameAndType 5 22), (0, u "(I[I[I)V"), (0, .methodref 18 24), (0, .nameAndType 25 13), (0, u "opposite"), (2, u "law"), (0, u "(IIIII)Z")] 5

def k1m0 : Method := { name := "<init>", desc := "()V", sig := { parameters := [], returnType := none }, accessFlags := 1, code := none }
def k1c1 : Code := { maxStack := 2, maxLocals := 2, code := method_2_code, exceptionTable := #[], attributes := #[] }
def k1m1 : Method := { name := "draw", desc := "(II)I", sig := { parameters := [.int, .int], returnType := some .int }, accessFlags := 10, code := some k1c1 }
def k1c2 : Code := { maxStack := 4, maxLocals := 3, code := method_3_code, exceptionTable := #[], attributes := #[] }
def k1m2 : Method := { name := "other", desc := "(III)I", sig := { parameters := [.int, .int, .int], returnType := some .int }, accessFlags := 10, code := some k1c2 }
def k1c3 : Code := { maxStack := 5, maxLocals := 15, code := code, exceptionTable := #[], attributes := #[] }
def k1m3 : Method := { name := "law", desc := "(IIIII)Z", sig := { parameters := [.int, .int, .int, .int, .int], returnType := some .boolean }, accessFlags := 9, code := some k1c3 }
/-- com/example/sondage/sondage/graph/GraphOppositePinLaw -/
def k1 : Class := { plain "com/example/sondage/sondage/graph/GraphOppositePinLaw" (some 0) with
  accessFlags := 49
  interfaces := #[]
  cf := some (fileOf pool1 9 #[] #[{ accessFlags := 1, nameIndex := 5, descriptorIndex := 6, attributes := #[] }, { accessFlags := 10, nameIndex := 12, descriptorIndex := 13, attributes := #[] }, { accessFlags := 10, nameIndex := 16, descriptorIndex := 17, attributes := #[] }, { accessFlags := 9, nameIndex := 28, descriptorIndex := 29, attributes := #[] }] 49 2 #[] #[])
  fields := #[]
  methods := #[k1m0, k1m1, k1m2, k1m3]
  instanceTypes := #[]
  staticTypes := #[]
  resolved := Array.replicate 35 none
  statics := none }

def pool2 : Array CpInfo := pool [(1, .methodref 2 3), (0, .class_ 4), (0, .nameAndType 5 6), (0, u "java/lang/Object"), (0, u "<init>"), (0, u "()V"), (12, .fieldref 20 21), (0, .class_ 22), (0, .nameAndType 23 24), (0, u "com/example/sondage/sondage/graph/Graph"), (0, u "nodeCount"), (0, u "I"), (0, .fieldref 20 26), (0, .nameAndType 27 28), (0, u "ends"), (0, u "[I"), (0, .methodref 20 30), (0, .nameAndType 31 32), (0, u "checkNode"), (0, u "(II)V"), (4, u "(I[I[I)V"), (9, u "opposite"), (0, u "(II)I")] 23

def k2c0 : Code := { maxStack := 5, maxLocals := 5, code := prog_29_method_1_code, exceptionTable := #[], attributes := #[] }
def k2m0 : Method := { name := "<init>", desc := "(I[I[I)V", sig := { parameters := [.int, (.array .int), (.array .int)], returnType := none }, accessFlags := 1, code := some k2c0 }
def k2c1 : Code := { maxStack := 6, maxLocals := 3, code := prog_29_method_2_code, exceptionTable := #[], attributes := #[] }
def k2m1 : Method := { name := "checkNode", desc := "(II)V", sig := { parameters := [.int, .int], returnType := none }, accessFlags := 2, code := some k2c1 }
def k2c2 : Code := { maxStack := 3, maxLocals := 3, code := prog_29_method_7_code, exceptionTable := #[], attributes := #[] }
def k2m2 : Method := { name := "opposite", desc := "(II)I", sig := { parameters := [.int, .int], returnType := some .int }, accessFlags := 1, code := some k2c2 }
/-- com/example/sondage/sondage/graph/Graph -/
def k2 : Class := { plain "com/example/sondage/sondage/graph/Graph" (some 0) with
  accessFlags := 49
  interfaces := #[]
  cf := some (fileOf pool2 20 #[] #[{ accessFlags := 1, nameIndex := 5, descriptorIndex := 37, attributes := #[] }, { accessFlags := 2, nameIndex := 31, descriptorIndex := 32, attributes := #[] }, { accessFlags := 1, nameIndex := 47, descriptorIndex := 48, attributes := #[] }] 49 2 #[] #[{ accessFlags := 18, nameIndex := 23, descriptorIndex := 24, attributes := #[] }, { accessFlags := 18, nameIndex := 27, descriptorIndex := 28, attributes := #[] }])
  fields := #[{ name := "nodeCount", type := .int, accessFlags := 18, slot := 0, constantValue := 0 }, { name := "ends", type := (.array .int), accessFlags := 18, slot := 1, constantValue := 0 }]
  methods := #[k2m0, k2m1, k2m2]
  instanceTypes := #[.int, (.array .int)]
  staticTypes := #[]
  resolved := Array.replicate 72 none
  statics := none }

def pool3 : Array CpInfo := pool [(1, u "java/lang/Cloneable"), (0, .class_ 1), (0, u "java/lang/Object"), (0, .class_ 3)] 3

/-- java/lang/Cloneable -/
def k3 : Class := { plain "java/lang/Cloneable" (some 0) with
  accessFlags := 1537
  interfaces := #[]
  cf := some (fileOf pool3 2 #[] #[] 1537 4 #[] #[])
  fields := #[]
  methods := #[]
  instanceTypes := #[]
  staticTypes := #[]
  resolved := Array.replicate 8 none
  statics := none }

def pool4 : Array CpInfo := pool [(1, u "java/io/Serializable"), (0, .class_ 1), (0, u "java/lang/Object"), (0, .class_ 3)] 3

/-- java/io/Serializable -/
def k4 : Class := { plain "java/io/Serializable" (some 0) with
  accessFlags := 1537
  interfaces := #[]
  cf := some (fileOf pool4 2 #[] #[] 1537 4 #[] #[])
  fields := #[]
  methods := #[]
  instanceTypes := #[]
  staticTypes := #[]
  resolved := Array.replicate 8 none
  statics := none }

/-- the primitive byte -/
def k5 : Class := { plain "byte" none with kind := .primitive 'B', accessFlags := 0x411 }
/-- [B -/
def k6 : Class := { plain "[B" (some 0) with kind := .array 5 .byte, interfaces := #[3, 4], accessFlags := 1041 }

/-- the primitive int -/
def k7 : Class := { plain "int" none with kind := .primitive 'I', accessFlags := 0x411 }
/-- [I -/
def k8 : Class := { plain "[I" (some 0) with kind := .array 7 .int, interfaces := #[3, 4], accessFlags := 1041 }

def heap : Heap := #[]
def classes : Array Class := #[k0, k1, k2, k3, k4, k5, k6, k7, k8]
def interned : List (Array UInt16 × Addr) := []
def slotsUsed : Nat := 0
def theMethod : MethodId := ⟨1, 3⟩
def args0 : Array Value := #[.int 5, .int 7, .int 9, .int 2, .int 3]
def aboutOver (below : List Frame) : State where
  vm := { classes := classes, interned := interned.toArray }
  heap := heap
  slotsUsed := slotsUsed
  threads := #[{ frames := .invoking theMethod args0 :: below }]
def below0 : List Frame := [.native { method := ⟨0, 0⟩, args := #[] }]
def about1 : State := aboutOver below0
def p0 : Program := .bare "" "" ""
def e0 : Env := launch0.env 0 0 0
theorem w_frames : about1.frames = Frame.invoking theMethod args0 :: below0 := rfl
set_option maxRecDepth 65536 in
theorem w_args : argsFit about1.vm theMethod args0 = true := by decide +kernel
set_option maxRecDepth 65536 in
theorem w_heap : heapFits about1 = true := by decide +kernel
set_option maxRecDepth 65536 in
theorem w_runnable : about1.curStatus? = some .runnable := by decide +kernel
set_option maxRecDepth 65536 in
theorem w_alone : about1.alone = true := by decide +kernel
set_option maxRecDepth 65536 in
theorem w_named : about1.methodNamed? x = some theMethod := by decide +kernel
set_option maxRecDepth 65536 in
theorem w_hears : about1.hears theMethod below0 = true := by decide +kernel
set_option maxRecDepth 65536 in
theorem w_ripe : about1.ripe theMethod args0 below0 = true := by decide +kernel
theorem w_running : about1.status = .running := rfl
set_option maxRecDepth 65536 in
theorem w_room : about1.hasRoom e0.platform room_1 = true :=
  launch0.hasRoom_least _ room_1 (by decide +kernel) (by decide +kernel) (by decide +kernel) (by decide +kernel) (by decide +kernel) (by decide +kernel)
theorem allAtoms_all (ts : List Jvm.Cond) (a : Array Jvm.Value) (st : Jvm.State) : (allAtoms ts).before a st = ts.all (fun c => c.before a st) := by
  induction ts with
  | nil => rfl
  | cons c t ih =>
    show (Jvm.Cond.and c (allAtoms t)).before a st = _
    rw [Jvm.Cond.before_and, ih, List.all_cons]
def words1 : List Jvm.Cond := Jvm.Cond.code x code maxLocals ret :: tables_1
/-- a 'code' word, met by the world's own term for the bytes: nothing is compared byte by byte -/
theorem code_word {y : MethodName} {bytes : ByteArray} {mx : Nat} {rt : Option FieldType} {a : Array Value} {s : State} {m : MethodId} {meth : Method} {c : Code} (h1 : s.methodNamed? y = some m) (h2 : s.vm.method? m = some meth) (h3 : meth.code = some c) (h4 : c.code = bytes)
    (h5 : (c.maxLocals == mx && c.exceptionTable.isEmpty && decide (c.maxStack ≤ mostOperands) && decide (meth.sig.returnType = rt) && !meth.locks && decide (parseMethodDescriptor y.desc = some meth.sig)) = true) : (Jvm.Cond.code y bytes mx rt).before a s = true := by
  simp only [Bool.and_eq_true, beq_iff_eq, Bool.not_eq_true', decide_eq_true_eq] at h5
  obtain ⟨⟨⟨⟨⟨g1, g2⟩, g3⟩, g4⟩, g5⟩, g6⟩ := h5
  simp [Cond.before, Cond.holds, Cond.value, h1, h2, h3, h4, g1, g2, g3, g4, g5, g6]
def isCode : Jvm.Cond → Bool
  | .code _ _ _ _ => true
  | _ => false
theorem all_split {L : List Jvm.Cond} {P : Jvm.Cond → Bool} (h1 : L.all (fun c => isCode c || P c) = true) (h2 : ∀ c ∈ L.filter isCode, P c = true) : L.all P = true := by
  refine List.all_eq_true.mpr fun c hc => ?_
  have h := List.all_eq_true.mp h1 c hc
  rcases Bool.eq_false_or_eq_true (isCode c) with hi | hi
  · exact h2 c (List.mem_filter.mpr ⟨hc, hi⟩)
  · simpa [hi] using h
set_option maxRecDepth 65536 in
theorem w_c0 : (Jvm.Cond.code x code maxLocals ret).before args0 about1 = true := code_word (m := ⟨1, 3⟩) (meth := k1m3) (c := k1c3) (by decide +kernel) rfl rfl rfl (by decide +kernel)
set_option maxRecDepth 65536 in
theorem w_c1 : (Jvm.Cond.code ({ cls := "com/example/sondage/sondage/graph/GraphOppositePinLaw", name := "draw", desc := "(II)I" } : Jvm.MethodName) method_2_code (2 : Nat) (Option.some Jvm.ClassFile.FieldType.int)).before args0 about1 = true := code_word (m := ⟨1, 1⟩) (meth := k1m1) (c := k1c1) (by decide +kernel) rfl rfl rfl (by decide +kernel)
set_option maxRecDepth 65536 in
theorem w_c2 : (Jvm.Cond.code ({ cls := "com/example/sondage/sondage/graph/GraphOppositePinLaw", name := "other", desc := "(III)I" } : Jvm.MethodName) method_3_code (3 : Nat) (Option.some Jvm.ClassFile.FieldType.int)).before args0 about1 = true := code_word (m := ⟨1, 2⟩) (meth := k1m2) (c := k1c2) (by decide +kernel) rfl rfl rfl (by decide +kernel)
set_option maxRecDepth 65536 in
theorem w_c3 : (Jvm.Cond.code ({ cls := "com/example/sondage/sondage/graph/Graph", name := "<init>", desc := "(I[I[I)V" } : Jvm.MethodName) prog_29_method_1_code (5 : Nat) (Option.none : Option Jvm.ClassFile.FieldType)).before args0 about1 = true := code_word (m := ⟨2, 0⟩) (meth := k2m0) (c := k2c0) (by decide +kernel) rfl rfl rfl (by decide +kernel)
set_option maxRecDepth 65536 in
theorem w_c4 : (Jvm.Cond.code ({ cls := "java/lang/Object", name := "<init>", desc := "()V" } : Jvm.MethodName) object_method_1_code (1 : Nat) (Option.none : Option Jvm.ClassFile.FieldType)).before args0 about1 = true := code_word (m := ⟨0, 0⟩) (meth := k0m0) (c := k0c0) (by decide +kernel) rfl rfl rfl (by decide +kernel)
set_option maxRecDepth 65536 in
theorem w_c5 : (Jvm.Cond.code ({ cls := "com/example/sondage/sondage/graph/Graph", name := "checkNode", desc := "(II)V" } : Jvm.MethodName) prog_29_method_2_code (3 : Nat) (Option.none : Option Jvm.ClassFile.FieldType)).before args0 about1 = true := code_word (m := ⟨2, 1⟩) (meth := k2m1) (c := k2c1) (by decide +kernel) rfl rfl rfl (by decide +kernel)
set_option maxRecDepth 65536 in
theorem w_c6 : (Jvm.Cond.code ({ cls := "com/example/sondage/sondage/graph/Graph", name := "opposite", desc := "(II)I" } : Jvm.MethodName) prog_29_method_7_code (3 : Nat) (Option.some Jvm.ClassFile.FieldType.int)).before args0 about1 = true := code_word (m := ⟨2, 2⟩) (meth := k2m2) (c := k2c2) (by decide +kernel) rfl rfl rfl (by decide +kernel)
def codes1 : List Jvm.Cond := [Jvm.Cond.code x code maxLocals ret, Jvm.Cond.code ({ cls := "com/example/sondage/sondage/graph/GraphOppositePinLaw", name := "draw", desc := "(II)I" } : Jvm.MethodName) method_2_code (2 : Nat) (Option.some Jvm.ClassFile.FieldType.int), Jvm.Cond.code ({ cls := "com/example/sondage/sondage/graph/GraphOppositePinLaw", name := "other", desc := "(III)I" } : Jvm.MethodName) method_3_code (3 : Nat) (Option.some Jvm.ClassFile.FieldType.int), Jvm.Cond.code ({ cls := "com/example/sondage/sondage/graph/Graph", name := "<init>", desc := "(I[I[I)V" } : Jvm.MethodName) prog_29_method_1_code (5 : Nat) (Option.none : Option Jvm.ClassFile.FieldType), Jvm.Cond.code ({ cls := "java/lang/Object", name := "<init>", desc := "()V" } : Jvm.MethodName) object_method_1_code (1 : Nat) (Option.none : Option Jvm.ClassFile.FieldType), Jvm.Cond.code ({ cls := "com/example/sondage/sondage/graph/Graph", name := "checkNode", desc := "(II)V" } : Jvm.MethodName) prog_29_method_2_code (3 : Nat) (Option.none : Option Jvm.ClassFile.FieldType), Jvm.Cond.code ({ cls := "com/example/sondage/sondage/graph/Graph", name := "opposite", desc := "(II)I" } : Jvm.MethodName) prog_29_method_7_code (3 : Nat) (Option.some Jvm.ClassFile.FieldType.int)]
set_option maxRecDepth 65536 in
theorem codes_eq : words1.filter isCode = codes1 := rfl
theorem w_codes : ∀ c ∈ words1.filter isCode, c.before args0 about1 = true := by
  rw [codes_eq]
  intro c hc
  simp only [codes1, List.mem_cons, List.not_mem_nil, or_false] at hc
  rcases hc with rfl | rfl | rfl | rfl | rfl | rfl | rfl
  · exact w_c0
  · exact w_c1
  · exact w_c2
  · exact w_c3
  · exact w_c4
  · exact w_c5
  · exact w_c6
set_option maxRecDepth 65536 in
theorem w_t1 : (words1.take 24).all (fun c => isCode c || c.before args0 about1) = true := by decide +kernel
set_option maxRecDepth 65536 in
theorem w_t2 : (words1.drop 24).all (fun c => isCode c || c.before args0 about1) = true := by decide +kernel
theorem w_tables : (allAtoms (Jvm.Cond.code x code maxLocals ret :: tables_1)).before args0 about1 = true := by
  rw [allAtoms_all]
  show words1.all (fun c => c.before args0 about1) = true
  refine all_split ?_ w_codes
  rw [← List.take_append_drop 24 words1, List.all_append, w_t1, w_t2]
  rfl
set_option maxRecDepth 65536 in
theorem w_case : (Jvm.Cond.and given_1 narrow_1).before args0 about1 = true := by decide +kernel
theorem w_applies : (headSpec (Jvm.Cond.code x code maxLocals ret :: tables_1) room_1).applies x e0.platform about1 = true :=
  (Spec.applies_iff w_frames).mpr ⟨w_running, w_runnable, w_alone, w_named, w_hears, w_ripe, w_room, w_tables⟩
theorem atStart : AtStart classFile x code maxLocals ret World_1 tables_1 room_1 Calls_1 rest_1 Pre_1 launch0 p0 e0 about1 theMethod args0 below0 :=
  ⟨lists_1, trivial, launch0.admits_env _ _ _, launch0.least_env, fairChoices_fair.cas, fairChoices_fair.clock, w_frames, w_args, w_heap, w_applies, trivial, trivial, w_case⟩
end start1
theorem witness_1 : WitnessClaimed_1 := ⟨start1.p0, start1.e0, start1.about1, start1.theMethod, start1.args0, start1.below0, start1.atStart⟩
end Jvm.Pilot.@@N@@
