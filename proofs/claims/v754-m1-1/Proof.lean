import JvmDerived
import JvmDerived.Pilot.@@N@@Statement
import JvmDerived.Pilot.@@N@@Code
set_option linter.unusedVariables false
set_option linter.unusedSimpArgs false

namespace Jvm.Pilot.@@N@@
open Jvm Jvm.ClassFile Sem Op Lib Jvm.Free Jvm.Stand Jvm.LawKit Jvm.RoadKit Bundle Jvm.Pilot.@@N@@.Jvm.D
/-! 1. the goal of a walk, and its steps -/
section OwnGoal
variable {p : Program} {l : Launch} {e : Env} {R : Room} {s : State} {m : MethodId} {args : Array Value} {below : List Frame} {meth : Method} {c : Code} {T : State} {locs : List Loc} {cells slots : Nat}
/-- from the state S the body returns, P holds of what it leaves, and the frame is kept -/
def Gl (p : Program) (e : Env) (below : List Frame) (s : State) (kc ks : Nat) (P : Option Value → Heap → List Loc → Prop) (S : State) : Prop :=
  ∃ t o, Steps p.tables e below S t ∧ t.status = .running ∧ Ended t below o ∧ ∃ v L, o = .returned v ∧ P v t.heap L ∧ FrameEnd s o t L kc ks
variable {kc ks : Nat} {P : Option Value → Heap → List Loc → Prop}
theorem Gl.on {A B : State} (h : ∀ t, Steps p.tables e below B t → Steps p.tables e below A t) (k : Gl p e below s kc ks P B) : Gl p e below s kc ks P A := by
  obtain ⟨t, o, h1, h2⟩ := k
  exact ⟨t, o, h t h1, h2⟩
theorem own_to {tb : Tables} {A B t : State} (q : A = B) (k : Steps tb e below B t) : Steps tb e below A t := q ▸ k
theorem Gl.out (X : Stand p l e R s m args below meth c T locs cells slots) (hx : p.tables.exec = Jvm.exec) (hlk : meth.locks = false) {pc : Nat} {Ls : Array Slot} {w : Value} {t : FieldType} {i : Instr} {rest : List Value} (hret : meth.sig.returnType = some t) (hn : narrow t w = w)
    (hi : (i = .ireturn ∧ (t = .int ∨ t = .boolean ∨ t = .byte ∨ t = .char ∨ t = .short) ∧ ∃ z, w = .int z) ∨ (i = .lreturn ∧ t = .long ∧ ∃ z, w = .long z) ∨ (i = .dreturn ∧ t = .double ∧ ∃ z, w = .double z) ∨ (i = .freturn ∧ t = .float ∧ ∃ z, w = .float z) ∨ (i = .areturn ∧ t.isReference = true ∧ w.isRef = true))
    (hd : decode c.code pc = .ok (i, 1)) (hP : P (some w) T.heap locs) (hc : cells ≤ kc) (hs : slots ≤ ks) : Gl p e below s kc ks P (T.setTop (mkF m pc Ls (w :: rest))) := by
  obtain ⟨fs, hr, hrun, hended, hW, hsame⟩ := X.leave (v := some w) (fun h => by rw [hret] at h; cases h) hlk
  exact ⟨_, _, retOut X hx hret hn hi hd hr, hrun, hended, _, _, rfl, hP, ⟨_, rfl⟩, hW, hsame.mono hc hs⟩
theorem Gl.outI (X : Stand p l e R s m args below meth c T locs cells slots) (hx : p.tables.exec = Jvm.exec) (hlk : meth.locks = false) {pc : Nat} {Ls : Array Slot} {z : Int32} {rest : List Value} (hret : meth.sig.returnType = some .int)
    (hd : decode c.code pc = .ok (.ireturn, 1)) (hP : P (some (.int z)) T.heap locs) (hc : cells ≤ kc) (hs : slots ≤ ks) : Gl p e below s kc ks P (T.setTop (mkF m pc Ls (.int z :: rest))) :=
  Gl.out X hx hlk hret rfl (Or.inl ⟨rfl, Or.inl rfl, z, rfl⟩) hd hP hc hs
theorem Gl.outJ (X : Stand p l e R s m args below meth c T locs cells slots) (hx : p.tables.exec = Jvm.exec) (hlk : meth.locks = false) {pc : Nat} {Ls : Array Slot} {z : Int64} {rest : List Value} (hret : meth.sig.returnType = some .long)
    (hd : decode c.code pc = .ok (.lreturn, 1)) (hP : P (some (.long z)) T.heap locs) (hc : cells ≤ kc) (hs : slots ≤ ks) : Gl p e below s kc ks P (T.setTop (mkF m pc Ls (.long z :: rest))) :=
  Gl.out X hx hlk hret rfl (Or.inr (Or.inl ⟨rfl, rfl, z, rfl⟩)) hd hP hc hs
theorem Gl.outR (X : Stand p l e R s m args below meth c T locs cells slots) (hx : p.tables.exec = Jvm.exec) (hlk : meth.locks = false) {pc : Nat} {Ls : Array Slot} {a : Addr} {t : FieldType} {rest : List Value} (hret : meth.sig.returnType = some t) (ht : t.isReference = true)
    (hd : decode c.code pc = .ok (.areturn, 1)) (hP : P (some (.ref a)) T.heap locs) (hc : cells ≤ kc) (hs : slots ≤ ks) : Gl p e below s kc ks P (T.setTop (mkF m pc Ls (.ref a :: rest))) :=
  Gl.out X hx hlk hret (by cases t <;> first | rfl | cases ht) (Or.inr (Or.inr (Or.inr (Or.inr ⟨rfl, ht, rfl⟩)))) hd hP hc hs
theorem Gl.outN (X : Stand p l e R s m args below meth c T locs cells slots) (hx : p.tables.exec = Jvm.exec) (hlk : meth.locks = false) {pc : Nat} {Ls : Array Slot} {z : Int32} {t : FieldType} {rest : List Value} (hret : meth.sig.returnType = some t) (ht : t = .boolean ∨ t = .byte ∨ t = .char ∨ t = .short)
    (hd : decode c.code pc = .ok (.ireturn, 1)) (hP : P (some (.int (nar t z))) T.heap locs) (hc : cells ≤ kc) (hs : slots ≤ ks) : Gl p e below s kc ks P (T.setTop (mkF m pc Ls (.int z :: rest))) := by
  obtain ⟨fs, hr, hrun, hended, hW, hsame⟩ := X.leave (v := some (.int (nar t z))) (fun h => by rw [hret] at h; cases h) hlk
  exact ⟨_, _, retN X hx hret ht hd hr, hrun, hended, _, _, rfl, hP, ⟨_, rfl⟩, hW, hsame.mono hc hs⟩
theorem Gl.outV (X : Stand p l e R s m args below meth c T locs cells slots) (hx : p.tables.exec = Jvm.exec) (hlk : meth.locks = false) {pc : Nat} {Ls : Array Slot} (hret : meth.sig.returnType = none)
    (hd : decode c.code pc = .ok (.return_, 1)) (hP : P none T.heap locs) (hc : cells ≤ kc) (hs : slots ≤ ks) : Gl p e below s kc ks P (T.setTop (mkF m pc Ls [])) := by
  obtain ⟨fs, hr, hrun, hended, hW, hsame⟩ := X.leave (v := none) (fun _ => rfl) hlk
  exact ⟨_, _, X.returnOut hx hret hd hr, hrun, hended, _, _, rfl, hP, ⟨_, rfl⟩, hW, hsame.mono hc hs⟩
end OwnGoal
theorem own_inj {α β : Type} {a b : α} {c d : β} (h : some (a, c) = some (b, d)) : a = b ∧ c = d := by cases h; exact ⟨rfl, rfl⟩
theorem own_inj1 {α : Type} {a b : α} (h : some a = some b) : a = b := by cases h; rfl
def own_let {α β : Type} (a : α) (f : α → β) : β := f a
theorem own_letE {α β : Type} {a : α} {f : α → β} {b : β} (h : own_let a f = b) : ∃ x, a = x ∧ f x = b := ⟨a, rfl, h⟩
theorem own_bind {α β : Type} {o : Option α} {f : α → Option β} {b : β} (h : o.bind f = some b) : ∃ x, o = some x ∧ f x = some b := by
  cases o with
  | none => cases h
  | some x => exact ⟨x, rfl, h⟩
/-! 2. what the law has made: a list of objects, each with its kind and its values; a reference is a place in that list -/
abbrev Hp := List (Nat × List Value)
abbrev Kt := Nat → FieldType × List (String × String)
def sh (n0 : Nat) : Value → Value
  | .ref k => .ref (n0 + k)
  | v => v
def gV (D : Hp) (a t i : Nat) : Option Value := (D[a]?).bind fun ob => if ob.1 = t then ob.2[i]? else none
def asI : Value → Option Int32
  | .int x => some x
  | _ => none
def asJ : Value → Option Int64
  | .long x => some x
  | _ => none
def asR : Value → Option Nat
  | .ref x => some x
  | _ => none
def gI (D : Hp) (a t i : Nat) : Option Int32 := (gV D a t i).bind asI
def gJ (D : Hp) (a t i : Nat) : Option Int64 := (gV D a t i).bind asJ
def gR (D : Hp) (a t i : Nat) : Option Nat := (gV D a t i).bind asR
def ck (D : Hp) (a t : Nat) : Option Nat := (D[a]?).bind fun ob => if ob.1 = t then some t else none
def pV (D : Hp) (a t i : Nat) (v : Value) : Option Hp := (D[a]?).bind fun ob => if ob.1 = t then (if i < ob.2.length then some (D.set a (t, ob.2.set i v)) else none) else none
def rV (D : Hp) (a t : Nat) (j : Int32) : Option Value := (D[a]?).bind fun ob => if ob.1 = t then (if j < 0 then none else ob.2[j.toNatClampNeg]?) else none
def rI (D : Hp) (a t : Nat) (j : Int32) : Option Int32 := (rV D a t j).bind asI
def rJ (D : Hp) (a t : Nat) (j : Int32) : Option Int64 := (rV D a t j).bind asJ
def wV (D : Hp) (a t : Nat) (j : Int32) (v : Value) : Option Hp := (D[a]?).bind fun ob => if ob.1 = t then (if j < 0 then none else if j.toNatClampNeg < ob.2.length then some (D.set a (t, ob.2.set j.toNatClampNeg v)) else none) else none
def lA (D : Hp) (a t : Nat) : Option Int32 := (D[a]?).bind fun ob => if ob.1 = t then some ob.2.length.toInt32 else none
def nA (D : Hp) (t : Nat) (n : Int32) (cap : Nat) (z : Value) : Option Hp := if n < 0 then none else if n.toNatClampNeg ≤ cap then some (D ++ [(t, List.replicate n.toNatClampNeg z)]) else none
def cA' (D : Hp) (a t cap : Nat) : Option Hp := (D[a]?).bind fun ob => if ob.1 = t then (if ob.2.length ≤ cap then some (D ++ [(t, ob.2)]) else none) else none
def Ob1 (K : Kt) (Z : State) (h : Heap) (n0 a t : Nat) (vs : List Value) : Prop :=
  (∀ ty, (K t).1 = .array ty → Exa Z h a ("[" ++ ty.toString) ∧ ∃ c : Cell, Arr Z h a c ty ∧ c.slots = (vs.map (sh n0)).toArray ∧ vs.length < 2 ^ 31 ∧ ∀ v ∈ vs, fits ty v = true) ∧
  (∀ C, (K t).1 = .object C → Exa Z h a C ∧ ∀ (i : Nat) (f d : String), (K t).2[i]? = some (f, d) → ∃ v : Value, vs[i]? = some v ∧ Fld Z h a C f d (sh n0 v))
def Ow (K : Kt) (Z : State) (h : Heap) (n0 : Nat) (D : Hp) : Prop := h.size = n0 + D.length ∧ ∀ (k t : Nat) (vs : List Value), D[k]? = some (t, vs) → Ob1 K Z h n0 (n0 + k) t vs
def Lay (K : Kt) (Z : State) (a0 : Array Value) : Prop := ∀ t C, (K t).1 = .object C → (∀ q ∈ (K t).2, Laid Z a0 C C q.1 q.2 ∧ ∃ ty, parseFieldDescriptor q.2 = some ty) ∧ ((K t).2.map Prod.fst).Nodup
section OwnHeap
variable {K : Kt} {Z : State} {h h' : Heap} {n0 : Nat} {D D' : Hp} {a t i : Nat} {v : Value} {j : Int32} {C f d : String} {ty : FieldType}
theorem gV_e (hg : gV D a t i = some v) : ∃ vs, D[a]? = some (t, vs) ∧ vs[i]? = some v := by
  obtain ⟨⟨t', vs⟩, h1, h2⟩ := own_bind hg
  by_cases q : t' = t
  · subst q; rw [if_pos rfl] at h2; exact ⟨vs, h1, h2⟩
  · rw [if_neg q] at h2; cases h2
theorem gI_e {x : Int32} (hg : gI D a t i = some x) : gV D a t i = some (.int x) := by
  obtain ⟨w, h1, h2⟩ := own_bind hg
  cases w <;> cases h2; exact h1
theorem gJ_e {x : Int64} (hg : gJ D a t i = some x) : gV D a t i = some (.long x) := by
  obtain ⟨w, h1, h2⟩ := own_bind hg
  cases w <;> cases h2; exact h1
theorem gR_e {x : Nat} (hg : gR D a t i = some x) : gV D a t i = some (.ref x) := by
  obtain ⟨w, h1, h2⟩ := own_bind hg
  cases w <;> cases h2; exact h1
theorem ck_e {q : Nat} (hg : ck D a t = some q) : ∃ vs, D[a]? = some (t, vs) := by
  obtain ⟨⟨t', vs⟩, h1, h2⟩ := own_bind hg
  by_cases q : t' = t
  · subst q; exact ⟨vs, h1⟩
  · rw [if_neg q] at h2; cases h2
theorem rV_e (hg : rV D a t j = some v) : ∃ vs, D[a]? = some (t, vs) ∧ ¬ j < 0 ∧ vs[j.toNatClampNeg]? = some v := by
  obtain ⟨⟨t', vs⟩, h1, h2⟩ := own_bind hg
  by_cases q : t' = t
  · subst q; rw [if_pos rfl] at h2
    by_cases r : j < 0
    · rw [if_pos r] at h2; cases h2
    · rw [if_neg r] at h2; exact ⟨vs, h1, r, h2⟩
  · rw [if_neg q] at h2; cases h2
theorem rI_e {x : Int32} (hg : rI D a t j = some x) : rV D a t j = some (.int x) := by
  obtain ⟨w, h1, h2⟩ := own_bind hg
  cases w <;> cases h2; exact h1
theorem rJ_e {x : Int64} (hg : rJ D a t j = some x) : rV D a t j = some (.long x) := by
  obtain ⟨w, h1, h2⟩ := own_bind hg
  cases w <;> cases h2; exact h1
theorem wV_e (hg : wV D a t j v = some D') : ∃ vs, D[a]? = some (t, vs) ∧ ¬ j < 0 ∧ j.toNatClampNeg < vs.length ∧ D' = D.set a (t, vs.set j.toNatClampNeg v) := by
  obtain ⟨⟨t', vs⟩, h1, h2⟩ := own_bind hg
  by_cases q : t' = t
  · subst q; rw [if_pos rfl] at h2
    by_cases r : j < 0
    · rw [if_pos r] at h2; cases h2
    · rw [if_neg r] at h2
      by_cases u : j.toNatClampNeg < vs.length
      · rw [if_pos u] at h2; cases h2; exact ⟨vs, h1, r, u, rfl⟩
      · rw [if_neg u] at h2; cases h2
  · rw [if_neg q] at h2; cases h2
theorem pV_e (hg : pV D a t i v = some D') : ∃ vs, D[a]? = some (t, vs) ∧ i < vs.length ∧ D' = D.set a (t, vs.set i v) := by
  obtain ⟨⟨t', vs⟩, h1, h2⟩ := own_bind hg
  by_cases q : t' = t
  · subst q; rw [if_pos rfl] at h2
    by_cases u : i < vs.length
    · rw [if_pos u] at h2; cases h2; exact ⟨vs, h1, u, rfl⟩
    · rw [if_neg u] at h2; cases h2
  · rw [if_neg q] at h2; cases h2
theorem cA_e {cap : Nat} (hg : cA' D a t cap = some D') : ∃ vs, D[a]? = some (t, vs) ∧ vs.length ≤ cap ∧ D' = D ++ [(t, vs)] := by
  obtain ⟨⟨t', vs⟩, h1, h2⟩ := own_bind hg
  by_cases q : t' = t
  · subst q; rw [if_pos rfl] at h2
    by_cases u : vs.length ≤ cap
    · rw [if_pos u] at h2; cases h2; exact ⟨vs, h1, u, rfl⟩
    · rw [if_neg u] at h2; cases h2
  · rw [if_neg q] at h2; cases h2
theorem lA_e {x : Int32} (hg : lA D a t = some x) : ∃ vs, D[a]? = some (t, vs) ∧ x = vs.length.toInt32 := by
  obtain ⟨⟨t', vs⟩, h1, h2⟩ := own_bind hg
  by_cases q : t' = t
  · subst q; rw [if_pos rfl] at h2; cases h2; exact ⟨vs, h1, rfl⟩
  · rw [if_neg q] at h2; cases h2
theorem Ow.fld (O : Ow K Z h n0 D) (hg : gV D a t i = some v) (hK : (K t).1 = .object C) (hf : (K t).2[i]? = some (f, d)) : Fld Z h (n0 + a) C f d (sh n0 v) := by
  obtain ⟨vs, h1, h2⟩ := gV_e hg
  obtain ⟨w, h3, h4⟩ := ((O.2 a t vs h1).2 C hK).2 i f d hf
  cases h2.symm.trans h3; exact h4
theorem Ow.fld0 (O : Ow K Z h n0 D) (hg : pV D a t i v = some D') (hK : (K t).1 = .object C) (hf : (K t).2[i]? = some (f, d)) : ∃ w, Fld Z h (n0 + a) C f d w := by
  obtain ⟨vs, h1, h2, -⟩ := pV_e hg
  obtain ⟨w, h3, h4⟩ := ((O.2 a t vs h1).2 C hK).2 i f d hf
  exact ⟨_, h4⟩
theorem Ow.exa (O : Ow K Z h n0 D) {vs : List Value} (hg : D[a]? = some (t, vs)) (hK : (K t).1 = .object C) : Exa Z h (n0 + a) C := ((O.2 a t vs hg).2 C hK).1
theorem Ow.exaC (O : Ow K Z h n0 D) {q : Nat} (hg : ck D a t = some q) (hK : (K t).1 = .object C) : Exa Z h (n0 + a) C := by
  obtain ⟨vs, h1⟩ := ck_e hg; exact O.exa h1 hK
theorem Ow.exaP (O : Ow K Z h n0 D) (hg : pV D a t i v = some D') (hK : (K t).1 = .object C) : Exa Z h (n0 + a) C := by
  obtain ⟨vs, h1, -⟩ := pV_e hg; exact O.exa h1 hK
theorem sh_len (vs : List Value) : ((vs.map (sh n0)).toArray).size = vs.length := by simp
/-- the array at a, its cell, that the place j lies in it and what it holds -/
theorem Ow.arrR (O : Ow K Z h n0 D) (hg : rV D a t j = some v) (hK : (K t).1 = .array ty) : ∃ c : Cell, Arr Z h (n0 + a) c ty ∧ ¬ (j < 0 ∨ c.slots.size ≤ j.toNatClampNeg) ∧ c.slots[j.toNatClampNeg]? = some (sh n0 v) := by
  obtain ⟨vs, h1, h2, h3⟩ := rV_e hg
  obtain ⟨-, c, A, hs, -, -⟩ := (O.2 a t vs h1).1 ty hK
  have hlt := (List.getElem?_eq_some_iff.mp h3).1
  refine ⟨c, A, ?_, ?_⟩
  · rw [hs, sh_len]; intro q; rcases q with q | q
    · exact h2 q
    · omega
  · rw [hs]; simp [h3]
theorem Ow.arrL (O : Ow K Z h n0 D) {x : Int32} (hg : lA D a t = some x) (hK : (K t).1 = .array ty) : ∃ c : Cell, Arr Z h (n0 + a) c ty ∧ c.slots.size.toInt32 = x := by
  obtain ⟨vs, h1, h2⟩ := lA_e hg
  obtain ⟨-, c, A, hs, -, -⟩ := (O.2 a t vs h1).1 ty hK
  exact ⟨c, A, by rw [hs, sh_len, h2]⟩
theorem Ow.arrW (O : Ow K Z h n0 D) (hg : wV D a t j v = some D') (hK : (K t).1 = .array ty) : ∃ c : Cell, Arr Z h (n0 + a) c ty ∧ ¬ (j < 0 ∨ c.slots.size ≤ j.toNatClampNeg) := by
  obtain ⟨vs, h1, h2, h3, -⟩ := wV_e hg
  obtain ⟨-, c, A, hs, -, -⟩ := (O.2 a t vs h1).1 ty hK
  refine ⟨c, A, ?_⟩
  rw [hs, sh_len]; intro q; rcases q with q | q
  · exact h2 q
  · omega
theorem own_get_set {k : Nat} {ob ob' : Nat × List Value} (hk : (D.set a ob)[k]? = some ob') : (k = a ∧ ob' = ob ∧ a < D.length) ∨ (k ≠ a ∧ D[k]? = some ob') := by
  by_cases q : k = a
  · subst q
    rw [List.getElem?_set] at hk
    simp only [if_true] at hk
    by_cases r : k < D.length
    · rw [if_pos r] at hk; cases hk; exact Or.inl ⟨rfl, rfl, r⟩
    · rw [if_neg r] at hk; cases hk
  · rw [List.getElem?_set_ne (Ne.symm q)] at hk; exact Or.inr ⟨q, hk⟩
theorem Ob1.other {x y k : Nat} {vs : List Value} {w : Value} {sl : Nat} (B : Ob1 K Z h n0 x k vs) (W : Wr h h' y sl w) (hne : x ≠ y) : Ob1 K Z h' n0 x k vs := by
  refine ⟨fun ty hK => ?_, fun C hK => ?_⟩
  · obtain ⟨E, c, A, r⟩ := B.1 ty hK
    exact ⟨E.wr W, c, A.other W hne, r⟩
  · obtain ⟨E, F⟩ := B.2 C hK
    refine ⟨E.wr W, fun i f d hi => ?_⟩
    obtain ⟨v, h1, h2⟩ := F i f d hi
    exact ⟨v, h1, h2.other W (Or.inl hne)⟩
theorem Ow.st (O : Ow K Z h n0 D) (hg : wV D a t j v = some D') (hK : (K t).1 = .array ty) (hfit : fits ty v = true) (W : Wr h h' (n0 + a) j.toNatClampNeg (sh n0 v)) : Ow K Z h' n0 D' := by
  obtain ⟨vs, h1, h2, h3, rfl⟩ := wV_e hg
  refine ⟨by rw [W.size, O.1, List.length_set], fun k t' vs' hk => ?_⟩
  rcases own_get_set hk with ⟨rfl, e, -⟩ | ⟨hne, hk'⟩
  · cases e
    refine ⟨fun ty' hK' => ?_, fun C hK' => ?_⟩
    · cases hK.symm.trans hK'
      obtain ⟨E, c, A, hs, hl, hf⟩ := (O.2 _ _ vs h1).1 _ hK
      refine ⟨E.wr W, _, A.same W, ?_, by rw [List.length_set]; exact hl, fun w hw => ?_⟩
      · simp only [Cell.setSlot, hs]
        rw [List.map_set]
        simp
      · rcases List.mem_or_eq_of_mem_set hw with q | q
        · exact hf w q
        · rw [q]; exact hfit
    · rw [hK] at hK'; cases hK'
  · exact (O.2 k t' vs' hk').other W (by omega)
theorem Ow.put {a0 : Array Value} (O : Ow K Z h n0 D) (hL : Lay K Z a0) (hg : pV D a t i v = some D') (hK : (K t).1 = .object C) (hf : (K t).2[i]? = some (f, d)) (W : Wr h h' (n0 + a) (Jvm.RoadKit.slotOf Z C f d) (sh n0 v)) : Ow K Z h' n0 D' := by
  obtain ⟨vs, h1, h3, rfl⟩ := pV_e hg
  refine ⟨by rw [W.size, O.1, List.length_set], fun k t' vs' hk => ?_⟩
  rcases own_get_set hk with ⟨rfl, e, -⟩ | ⟨hne, hk'⟩
  · cases e
    refine ⟨fun ty' hK' => (by rw [hK] at hK'; cases hK'), fun C' hK' => ?_⟩
    cases hK.symm.trans hK'
    obtain ⟨E, F⟩ := (O.2 _ _ vs h1).2 _ hK
    refine ⟨E.wr W, fun i' f' d' hi' => ?_⟩
    obtain ⟨w, g1, g2⟩ := F i' f' d' hi'
    by_cases q : i' = i
    · subst q
      cases hf.symm.trans hi'
      exact ⟨v, by rw [List.getElem?_set]; simp [h3], g2.same W⟩
    · refine ⟨w, by rw [List.getElem?_set_ne (Ne.symm q)]; exact g1, g2.other W (Or.inr ?_)⟩
      obtain ⟨hl, hn⟩ := hL t C hK
      obtain ⟨l1, ty1, p1⟩ := hl _ (List.mem_of_getElem? hf)
      obtain ⟨l2, ty2, p2⟩ := hl _ (List.mem_of_getElem? hi')
      refine slot_ne l2 l1 (fun e => q ?_) p2 p1
      have m1 : ((K t).2.map Prod.fst)[i]? = some f := by rw [List.getElem?_map, hf]; rfl
      have m2 : ((K t).2.map Prod.fst)[i']? = some f' := by rw [List.getElem?_map, hi']; rfl
      obtain ⟨b1, c1⟩ := List.getElem?_eq_some_iff.mp m1
      obtain ⟨b2, c2⟩ := List.getElem?_eq_some_iff.mp m2
      exact (List.getElem_inj hn).mp (by rw [c1, c2]; exact e)
  · exact (O.2 k t' vs' hk').other W (by omega)
theorem Ob1.ext {x k : Nat} {vs : List Value} (B : Ob1 K Z h n0 x k vs) (E : Ext h h') : Ob1 K Z h' n0 x k vs := by
  refine ⟨fun ty hK => ?_, fun C hK => ?_⟩
  · obtain ⟨F, c, A, r⟩ := B.1 ty hK
    exact ⟨F.ext E, c, A.ext E, r⟩
  · obtain ⟨X, F⟩ := B.2 C hK
    refine ⟨X.ext E, fun i f d hi => ?_⟩
    obtain ⟨v, h1, h2⟩ := F i f d hi
    exact ⟨v, h1, h2.ext E⟩
theorem Ow.push {vs : List Value} (O : Ow K Z h n0 D) (E : Ext h h') (hsz : h'.size = h.size + 1) (B : Ob1 K Z h' n0 (n0 + D.length) t vs) : Ow K Z h' n0 (D ++ [(t, vs)]) := by
  refine ⟨by rw [hsz, O.1, List.length_append]; rfl, fun k t' vs' hk => ?_⟩
  by_cases q : k < D.length
  · rw [List.getElem?_append_left q] at hk; exact (O.2 k t' vs' hk).ext E
  · rw [List.getElem?_append_right (Nat.le_of_not_lt q)] at hk
    have e : k - D.length = 0 := by
      have := (List.getElem?_eq_some_iff.mp hk).1
      simp only [List.length_singleton] at this; omega
    rw [e] at hk
    have hk2 : (t, vs) = (t', vs') := Option.some.inj hk
    cases hk2
    have : k = D.length := by omega
    rw [this]; exact B
theorem sh_default (ty : FieldType) : sh n0 (defaultValue ty) = defaultValue ty := by cases ty <;> rfl
theorem own_ow0 (h : Heap) : Ow K Z h h.size [] := ⟨by simp, fun k t vs hk => by simp at hk⟩
end OwnHeap
/-! 3. the laws of the library, over that list -/
section OwnLaws
variable {p : Program} {l : Launch} {e : Env} {R : Room} {s : State} {m : MethodId} {args : Array Value} {below : List Frame} {meth : Method} {c : Code} {T : State} {locs : List Loc} {cells slots : Nat} {Z : State} {a0 : Array Value} {h : Heap} {K : Kt} {n0 : Nat} {D D' : Hp} {a t : Nat}
theorem ldW (X : Stand p l e R s m args below meth c T locs cells slots) (hx : p.tables.exec = Jvm.exec) (hZ : Z.Warmed39 s.vm) (eT : T.heap = h) (O : Ow K Z h n0 D) {j : Int32} {x : Int32} (hg : rI D a t j = some x) (hK : (K t).1 = .array .int)
    {g : JFrame} (hgm : g.method = m) {rest : List Value} (hs : g.stack = .int j :: .ref (n0 + a) :: rest) (hd : decode c.code g.pc = .ok (.iaload, 1)) (target : State)
    (hr : Steps p.tables e below (T.setTop { g with pc := g.pc + 1, stack := .int x :: rest }) target) : Steps p.tables e below (T.setTop g) target := by
  obtain ⟨cl, A, hin, hat⟩ := O.arrR (rI_e hg) hK
  exact X.iaload hx (v := .int x) (by rw [eT]; exact A.1) (State.isArrayOf_alike hZ.alike A.2.1) A.2.2 hin hat hgm hs hd target hr
theorem ldB (X : Stand p l e R s m args below meth c T locs cells slots) (hx : p.tables.exec = Jvm.exec) (hZ : Z.Warmed39 s.vm) (eT : T.heap = h) (O : Ow K Z h n0 D) {j : Int32} {x : Int32} (hg : rI D a t j = some x) (hK : (K t).1 = .array .byte)
    {g : JFrame} (hgm : g.method = m) {rest : List Value} (hs : g.stack = .int j :: .ref (n0 + a) :: rest) (hd : decode c.code g.pc = .ok (.baload, 1)) (target : State)
    (hr : Steps p.tables e below (T.setTop { g with pc := g.pc + 1, stack := .int x :: rest }) target) : Steps p.tables e below (T.setTop g) target := by
  obtain ⟨cl, A, hin, hat⟩ := O.arrR (rI_e hg) hK
  exact X.baloadBytes hx (v := .int x) (by rw [eT]; exact A.1) (State.isArrayOf_alike hZ.alike A.2.1) A.2.2 hin hat hgm hs hd target hr
theorem ldJ (X : Stand p l e R s m args below meth c T locs cells slots) (hx : p.tables.exec = Jvm.exec) (hZ : Z.Warmed39 s.vm) (eT : T.heap = h) (O : Ow K Z h n0 D) {j : Int32} {x : Int64} (hg : rJ D a t j = some x) (hK : (K t).1 = .array .long)
    {g : JFrame} (hgm : g.method = m) {rest : List Value} (hs : g.stack = .int j :: .ref (n0 + a) :: rest) (hd : decode c.code g.pc = .ok (.laload, 1)) (target : State)
    (hr : Steps p.tables e below (T.setTop { g with pc := g.pc + 1, stack := .long x :: rest }) target) : Steps p.tables e below (T.setTop g) target := by
  obtain ⟨cl, A, hin, hat⟩ := O.arrR (rJ_e hg) hK
  exact X.laload hx (v := .long x) (by rw [eT]; exact A.1) (State.isArrayOf_alike hZ.alike A.2.1) A.2.2 hin hat hgm hs hd target hr
theorem lenW' (X : Stand p l e R s m args below meth c T locs cells slots) (hx : p.tables.exec = Jvm.exec) (hZ : Z.Warmed39 s.vm) (eT : T.heap = h) (O : Ow K Z h n0 D) {x : Int32} (hg : lA D a t = some x) {ty : FieldType} (hK : (K t).1 = .array ty)
    {g : JFrame} (hgm : g.method = m) {rest : List Value} (hs : g.stack = .ref (n0 + a) :: rest) (hd : decode c.code g.pc = .ok (.arraylength, 1)) (target : State)
    (hr : Steps p.tables e below (T.setTop { g with pc := g.pc + 1, stack := .int x :: rest }) target) : Steps p.tables e below (T.setTop g) target := by
  obtain ⟨cl, A, hl⟩ := O.arrL hg hK
  subst hl
  exact X.arraylength hx (by rw [eT]; exact A.1) (State.isArrayOf_alike hZ.alike A.2.1) hgm hs hd target hr
theorem stIW (X : Stand p l e R s m args below meth c T locs cells slots) (hx : p.tables.exec = Jvm.exec) (hZ : Z.Warmed39 s.vm) (eT : T.heap = h) (O : Ow K Z h n0 D) (N : Fr n0 locs) {j x : Int32} (hg : wV D a t j (.int x) = some D') (hK : (K t).1 = .array .int)
    {g : JFrame} (hgm : g.method = m) {rest : List Value} (hs : g.stack = .int x :: .int j :: .ref (n0 + a) :: rest) (hd : decode c.code g.pc = .ok (.iastore, 1)) :
    ∃ T' h' L, Stand p l e R s m args below meth c T' L cells slots ∧ T'.heap = h' ∧ Ow K Z h' n0 D' ∧ Fr n0 L ∧ ∀ target, Steps p.tables e below (T'.setTop { g with pc := g.pc + 1, stack := rest }) target → Steps p.tables e below (T.setTop g) target := by
  obtain ⟨cl, A, hin⟩ := O.arrW hg hK
  obtain ⟨T', h', X', e', W, st⟩ := stI X hx hZ eT A hin hgm hs hd
  exact ⟨T', h', _, X', e', O.st hg hK rfl W, Fr.snoc X' N (Nat.le_add_right _ _), st⟩
theorem stBW (X : Stand p l e R s m args below meth c T locs cells slots) (hx : p.tables.exec = Jvm.exec) (hZ : Z.Warmed39 s.vm) (eT : T.heap = h) (O : Ow K Z h n0 D) (N : Fr n0 locs) {j x : Int32} (hg : wV D a t j (.int x.toInt8.toInt32) = some D') (hK : (K t).1 = .array .byte)
    {g : JFrame} (hgm : g.method = m) {rest : List Value} (hs : g.stack = .int x :: .int j :: .ref (n0 + a) :: rest) (hd : decode c.code g.pc = .ok (.bastore, 1)) :
    ∃ T' h' L, Stand p l e R s m args below meth c T' L cells slots ∧ T'.heap = h' ∧ Ow K Z h' n0 D' ∧ Fr n0 L ∧ ∀ target, Steps p.tables e below (T'.setTop { g with pc := g.pc + 1, stack := rest }) target → Steps p.tables e below (T.setTop g) target := by
  obtain ⟨cl, A, hin⟩ := O.arrW hg hK
  obtain ⟨T', h', X', e', W, st⟩ := stB X hx hZ eT A hin hgm hs hd
  exact ⟨T', h', _, X', e', O.st hg hK (fits_nar_byte _) W, Fr.snoc X' N (Nat.le_add_right _ _), st⟩
theorem stJW (X : Stand p l e R s m args below meth c T locs cells slots) (hx : p.tables.exec = Jvm.exec) (hZ : Z.Warmed39 s.vm) (eT : T.heap = h) (O : Ow K Z h n0 D) (N : Fr n0 locs) {j : Int32} {x : Int64} (hg : wV D a t j (.long x) = some D') (hK : (K t).1 = .array .long)
    {g : JFrame} (hgm : g.method = m) {rest : List Value} (hs : g.stack = .long x :: .int j :: .ref (n0 + a) :: rest) (hd : decode c.code g.pc = .ok (.lastore, 1)) :
    ∃ T' h' L, Stand p l e R s m args below meth c T' L cells slots ∧ T'.heap = h' ∧ Ow K Z h' n0 D' ∧ Fr n0 L ∧ ∀ target, Steps p.tables e below (T'.setTop { g with pc := g.pc + 1, stack := rest }) target → Steps p.tables e below (T.setTop g) target := by
  obtain ⟨cl, A, hin⟩ := O.arrW hg hK
  obtain ⟨T', h', X', e', W, st⟩ := stJ X hx hZ eT A hin hgm hs hd
  exact ⟨T', h', _, X', e', O.st hg hK rfl W, Fr.snoc X' N (Nat.le_add_right _ _), st⟩
theorem putW (X : Stand p l e R s m args below meth c T locs cells slots) (hx : p.tables.exec = Jvm.exec) (hZ : Z.Warmed39 s.vm) {own C f d : String} {index kk i : Nat} {ty : FieldType} (hown : s.vm.findClass own = some m.cls) (w : (Cond.fieldLink own index C f d).before a0 Z = true) (hL : Lay K Z a0)
    (eT : T.heap = h) (O : Ow K Z h n0 D) (N : Fr n0 locs) {v : Value} (hg : pV D a t i v = some D') (hK : (K t).1 = .object C) (hf : (K t).2[i]? = some (f, d)) (L : (Cond.lays C C f d).before a0 Z = true ∨ ((Cond.laysFinal C C f d).before a0 Z = true ∧ own = C ∧ meth.name = "<init>")) (wi : (Cond.instantiable C kk).before a0 Z = true)
    (hty : parseFieldDescriptor d = some ty) (hn : narrow ty (sh n0 v) = sh n0 v) (hfit : fits ty (sh n0 v) = true) {g : JFrame} (hgm : g.method = m) {rest : List Value} (hs : g.stack = sh n0 v :: .ref (n0 + a) :: rest) (hd : decode c.code g.pc = .ok (.putfield index, 3)) :
    ∃ T' h' L, Stand p l e R s m args below meth c T' L cells slots ∧ T'.heap = h' ∧ Ow K Z h' n0 D' ∧ Fr n0 L ∧ ∀ target, Steps p.tables e below (T'.setTop { g with pc := g.pc + 3, stack := rest }) target → Steps p.tables e below (T.setTop g) target := by
  obtain ⟨old, F⟩ := O.fld0 hg hK hf
  obtain ⟨T', h', X', e', W, st⟩ := putF X hx hZ hown (host := "") (Or.inl w) Via.refl eT F (O.exaP hg hK) L wi hty hn hfit hgm hs hd
  exact ⟨T', h', _, X', e', O.put hL hg hK hf W, Fr.snoc X' N (Nat.le_add_right _ _), st⟩
theorem newW (X : Stand p l e R s m args below meth c T locs cells slots) (hx : p.tables.exec = Jvm.exec) (hZ : Z.Warmed39 s.vm) {own C : String} {index n : Nat} (hown : s.vm.findClass own = some m.cls) (w : (Cond.classLink own index C).before a0 Z = true) (wi : (Cond.instantiable C n).before a0 Z = true) (wz : (Cond.initialized C).before a0 Z = true) (hL : Lay K Z a0) (eT : T.heap = h) (O : Ow K Z h n0 D)
    (hK : (K t).1 = .object C) {ds : List Value} (hds : ∀ q ∈ (K t).2.zipIdx, ∃ ty, parseFieldDescriptor q.1.2 = some ty ∧ ds[q.2]? = some (defaultValue ty)) {g : JFrame} (hg : g.method = m) (hd : decode c.code g.pc = .ok (.new index, 3)) (hc : cells + 1 ≤ R.cells) (hl : slots + n ≤ R.slots) :
    ∃ T' h', Stand p l e R s m args below meth c T' locs (cells + 1) (slots + n) ∧ T'.heap = h' ∧ Ow K Z h' n0 (D ++ [(t, ds)]) ∧ ∀ target, Steps p.tables e below (T'.setTop { g with pc := g.pc + 3, stack := .ref (n0 + D.length) :: g.stack }) target → Steps p.tables e below (T.setTop g) target := by
  obtain ⟨vm', cC, kC, h1, h2, h3, h4, X', st⟩ := X.newCold hx hown (mv hZ w) (mv hZ wi) (mv hZ wz) hg hd hc hl
  subst eT
  rw [hZ.alike.findClass] at h1
  obtain ⟨kZ, z1, -⟩ := Vm.findClass_spec h1
  obtain ⟨k', z2, z3⟩ := hZ.alike.2.2 _ _ z1
  cases h2.symm.trans z2
  have ei : kC.instanceTypes = kZ.instanceTypes := by rw [z3]
  have hN : (T.heap.push { cls := cC, slots := kC.instanceTypes.map defaultValue, vm := .none })[T.heap.size]? = some { cls := cC, slots := kC.instanceTypes.map defaultValue, vm := .none } := by simp
  have E : Ext T.heap (T.heap.push { cls := cC, slots := kC.instanceTypes.map defaultValue, vm := .none }) := ⟨by simp, fun a c h => by
    rw [Array.getElem?_push_lt (Array.getElem?_eq_some_iff.mp h).1]; exact (Array.getElem?_eq_getElem _).symm.trans h⟩
  have hsz := O.1
  refine ⟨_, _, X', rfl, O.push E (by simp) ⟨fun ty hK' => (by rw [hK] at hK'; cases hK'), fun C' hK' => ?_⟩, by rw [← hsz]; exact st⟩
  cases hK.symm.trans hK'
  rw [← hsz]
  refine ⟨⟨_, kZ, hN, h1, z1, rfl, fun _ => by simp [ei]⟩, fun i f d hi => ?_⟩
  obtain ⟨ty, t1, t2⟩ := hds ((f, d), i) (List.mem_zipIdx_iff_getElem?.mpr hi)
  refine ⟨_, t2, ?_⟩
  rw [sh_default]
  obtain ⟨c1, k1, cf, kf, i', f', a1, a2, a3, a4, a5, a6, -⟩ := ((hL t C hK).1 _ (List.mem_of_getElem? hi)).1.spec
  cases h1.symm.trans a1
  cases z1.symm.trans a2
  exact ⟨_, cf, kf, i', f', hN, a3, a4, by simp, rfl, a5, by simp [ei, a6, (State.fieldFound?_type a3 t1).2]⟩
theorem newAW (X : Stand p l e R s m args below meth c T locs cells slots) (hx : p.tables.exec = Jvm.exec) (hZ : Z.Warmed39 s.vm) {aty : ArrayType} (w : (Cond.arrayClass (newarray.typeOf aty)).before a0 Z = true) (eT : T.heap = h) (O : Ow K Z h n0 D) (hK : (K t).1 = .array (newarray.typeOf aty))
    {n : Int32} {cap : Nat} {z : Value} (hz : z = defaultValue (newarray.typeOf aty)) (hn : nA D t n cap z = some D') {g : JFrame} (hg : g.method = m) (hd : decode c.code g.pc = .ok (.newarray aty, 2)) {rest : List Value} (hs : g.stack = .int n :: rest)
    (hb : cap * 8 ≤ 536870912) (hc : cells + 1 ≤ R.cells) (hl : slots + cap ≤ R.slots) :
    ∃ T' h', Stand p l e R s m args below meth c T' locs (cells + 1) (slots + cap) ∧ T'.heap = h' ∧ Ow K Z h' n0 D' ∧ ∀ target, Steps p.tables e below (T'.setTop { g with pc := g.pc + 2, stack := .ref (n0 + D.length) :: rest }) target → Steps p.tables e below (T.setTop g) target := by
  have hcb : componentBytes (newarray.typeOf aty) ≤ 8 := by cases aty <;> decide
  by_cases q : n < 0
  · simp only [nA, if_pos q] at hn; cases hn
  simp only [nA, if_neg q] at hn
  by_cases hcap : n.toNatClampNeg ≤ cap
  · rw [if_pos hcap] at hn
    cases hn
    obtain ⟨cA, kA, comp, h1, h2, h3, X', st⟩ := X.newarrayPrim hx (mvA hZ w) hg hd hs q (Nat.le_trans (Nat.mul_le_mul hcap hcb) hb) hc (by omega)
    subst eT
    rw [hZ.alike.findClass] at h1
    obtain ⟨kZ, z1, -⟩ := Vm.findClass_spec h1
    obtain ⟨k', z2, z3⟩ := hZ.alike.2.2 _ _ z1
    cases h2.symm.trans z2
    have hsz := O.1
    refine ⟨_, _, X'.more (Nat.le_refl _) (by omega), rfl, O.push (h' := T.heap.push _) ⟨by simp, fun a c h => ?_⟩ (by simp) ⟨fun ty hK' => ?_, fun C hK' => by rw [hK] at hK'; cases hK'⟩, by rw [← hsz]; exact st⟩
    · rw [Array.getElem?_push_lt (Array.getElem?_eq_some_iff.mp h).1]; exact (Array.getElem?_eq_getElem _).symm.trans h
    · cases hK.symm.trans hK'
      rw [← hsz]
      have ek : kZ.kind = .array comp (newarray.typeOf aty) := by rw [← h3, z3]
      refine ⟨⟨_, kZ, Array.getElem?_push_size, h1, z1, rfl, fun q => by rw [ek] at q; cases q⟩, _, ⟨Array.getElem?_push_size, ⟨by simp, kZ, z1, comp, ek⟩, by simp⟩, ?_, ?_, fun v hv => ?_⟩
      · rw [hz, List.map_replicate, sh_default]; simp
      · rw [List.length_replicate]; exact (back32 q).2
      · rw [(List.mem_replicate.mp hv).2, hz]; cases aty <;> rfl
  · rw [if_neg hcap] at hn; cases hn
/-! 4. contracts and calls -/
def Qw (K : Kt) (Z : State) (n0 : Nat) (r : Option Value) (D' : Hp) : Option Value → Heap → List Loc → Prop := fun v h L => v = r ∧ Fr n0 L ∧ Ow K Z h n0 D'
def Ct (K : Kt) (l : Launch) (Z : State) (y : MethodName) (cw : Jvm.Cond) (rm : Room) (n0 : Nat) (D : Hp) (as' : Array Value) (r : Option Value) (D' : Hp) : Prop :=
  ∀ (h0 : Heap) (ws : List Jvm.Cond), Ow K Z h0 n0 D → MetFree l y (head1 (cw :: ws) rm) (fun a U => a = as' ∧ Z.Warmed39 U.vm ∧ U.heap = h0) (fun _ _ _ _ _ => True) (fun _ U o U' => ∃ v L, o = .returned v ∧ Qw K Z n0 r D' v U'.heap L ∧ FrameEnd U o U' L rm.cells rm.slots)
/-- what stands still through a body -/
def Cx (p : Program) (s : State) (m : MethodId) (meth : Method) (c : Code) (Z : State) (bytes : ByteArray) (maxL : Nat) (ret : Option FieldType) (own nm : String) : Prop :=
  p.tables.exec = Jvm.exec ∧ Z.Warmed39 s.vm ∧ c.code = bytes ∧ c.maxLocals = maxL ∧ s.vm.findClass own = some m.cls ∧ meth.name = nm ∧ meth.sig.returnType = ret ∧ meth.locks = false
variable {y : MethodName} {bytes : ByteArray} {maxL : Nat} {ret : Option FieldType} {rm : Room} {r : Option Value}
theorem Ct.of {as' : Array Value} (hpl : plainFor y = true) (body : ∀ (p : Program) (e : Env) (s : State) (m : MethodId) (below : List Frame) (meth : Method) (c : Code) (s₁ : State) (h0 : Heap), Cx p s m meth c Z bytes maxL ret y.cls y.name → Stand p l e rm s m as' below meth c s₁ [] 0 0 → s₁.heap = h0 → Ow K Z h0 n0 D →
      Gl p e below s rm.cells rm.slots (Qw K Z n0 r D') (s₁.setTop (entryFrame m as' maxL))) : Ct K l Z y (.code y bytes maxL ret) rm n0 D as' r D' := by
  intro h0 ws O
  refine MetFree.of_bodySF hpl hisR ?_
  intro p e s m args below meth c s₁ Bd hml0 hP hK
  obtain ⟨rfl, hZ, hh⟩ := hP
  exact body p e s m below meth c s₁ h0 ⟨Bd.exec, hZ, Bd.bytes, hml0, findClass_of_methodNamed Bd.named, (name_of_methodNamed Bd.named Bd.method).1, Bd.returns, BodyLoose.notSynchronized Bd⟩ (Stand.of_body Bd) (by rw [← hh, Bd.state]; rfl) O
theorem Ct.ofH {as' : Array Value} {hs : List (Nat × Nat × Nat × Nat)} (hpl : plainFor y = true) (body : ∀ (p : Program) (e : Env) (s : State) (m : MethodId) (below : List Frame) (meth : Method) (c : Code) (s₁ : State) (h0 : Heap), Cx p s m meth c Z bytes maxL ret y.cls y.name → Stand p l e rm s m as' below meth c s₁ [] 0 0 → s₁.heap = h0 → Ow K Z h0 n0 D →
      Gl p e below s rm.cells rm.slots (Qw K Z n0 r D') (s₁.setTop (entryFrame m as' maxL))) : Ct K l Z y (.codeWith y bytes maxL ret hs) rm n0 D as' r D' := by
  intro h0 ws O
  refine MetFree.of_bodySF hpl hisWith ?_
  intro p e s m args below meth c s₁ Bd hml0 hP hK
  obtain ⟨rfl, hZ, hh⟩ := hP
  exact body p e s m below meth c s₁ h0 ⟨Bd.exec, hZ, Bd.bytes, hml0, findClass_of_methodNamed Bd.named, (name_of_methodNamed Bd.named Bd.method).1, Bd.returns, BodyLoose.notSynchronized Bd⟩ (Stand.of_body Bd) (by rw [← hh, Bd.state]; rfl) O
theorem callSW (X : Stand p l e R s m args below meth c T locs cells slots) (hx : p.tables.exec = Jvm.exec) (hZ : Z.Warmed39 s.vm) {own : String} {index : Nat} (hown : s.vm.findClass own = some m.cls) (w1 : (Cond.methodLink own index y).before a0 Z = true) (w2 : (Cond.static y).before a0 Z = true) (w3 : (Cond.initialized y.cls).before a0 Z = true) (w4 : (Cond.code y bytes maxL ret).before a0 Z = true)
    (hy : y.cls ≠ "java/lang/invoke/MethodHandle" ∧ y.cls ≠ "java/lang/invoke/VarHandle") (eT : T.heap = h) (O : Ow K Z h n0 D) (N : Fr n0 locs) {as' : List Value} (hM : Ct K l Z y (.code y bytes maxL ret) rm n0 D as'.toArray r D') {W kc ks : Nat} (hkc : rm.cells = kc) (hks : rm.slots = ks) (hf : rm.frames + 1 ≤ R.frames) (hl : W + (maxL + 11) + rm.locals ≤ R.locals)
    {g : JFrame} (hg : g.method = m) (hsize : g.locals.size = c.maxLocals) {rest : List Value} (hlen : ∀ sig, parseMethodDescriptor y.desc = some sig → as'.length = sig.parameters.length) (hs : g.stack = as'.reverse ++ rest) (hW : 2 * g.monitorRoom + (rest.map fun v => v.category).sum ≤ W) (hd : decode c.code g.pc = .ok (.invokestatic index, 3)) (hc : cells + kc ≤ R.cells) (hsl : slots + ks ≤ R.slots) :
    ∃ T' h' L, Stand p l e R s m args below meth c T' L (cells + kc) (slots + ks) ∧ T'.heap = h' ∧ Ow K Z h' n0 D' ∧ Fr n0 L ∧ ∀ target, Steps p.tables e below (T'.setTop { g with pc := g.pc + 3, stack := r.toList ++ rest }) target → Steps p.tables e below (T.setTop g) target := by
  subst hkc hks
  obtain ⟨_, _, ⟨T', L', k', n'⟩, -, X', ⟨Lc, hQ, hL, hk, hn⟩, st⟩ := Jvm.LawKit.callS X hx hown (mvT hZ w1) (mvT hZ w2) (mvT hZ w3) (mvT hZ w4) hy (backOf (W := W) (hM h [] O) hZ w4 w3 hf hl) hg hsize (argsL := as') hlen hs hW hd (fun _ _ => ⟨rfl, eT, hc, hsl⟩)
  dsimp only [Pt.U, Pt.locs, Pt.cells, Pt.slots] at X' hL hk hn st hQ
  subst hL hk hn
  obtain ⟨rfl, N', O'⟩ := hQ
  exact ⟨T', _, _, X', rfl, O', N.app N', st⟩
theorem callSHW (X : Stand p l e R s m args below meth c T locs cells slots) (hx : p.tables.exec = Jvm.exec) (hZ : Z.Warmed39 s.vm) {own : String} {index : Nat} {hs' : List (Nat × Nat × Nat × Nat)} (hown : s.vm.findClass own = some m.cls) (w1 : (Cond.methodLink own index y).before a0 Z = true) (w2 : (Cond.static y).before a0 Z = true) (w3 : (Cond.initialized y.cls).before a0 Z = true) (w4 : (Cond.codeWith y bytes maxL ret hs').before a0 Z = true)
    (hy : y.cls ≠ "java/lang/invoke/MethodHandle" ∧ y.cls ≠ "java/lang/invoke/VarHandle") (eT : T.heap = h) (O : Ow K Z h n0 D) (N : Fr n0 locs) {as' : List Value} (hM : Ct K l Z y (.codeWith y bytes maxL ret hs') rm n0 D as'.toArray r D') {W kc ks : Nat} (hkc : rm.cells = kc) (hks : rm.slots = ks) (hf : rm.frames + 1 ≤ R.frames) (hl : W + (maxL + 11) + rm.locals ≤ R.locals)
    {g : JFrame} (hg : g.method = m) (hsize : g.locals.size = c.maxLocals) {rest : List Value} (hlen : ∀ sig, parseMethodDescriptor y.desc = some sig → as'.length = sig.parameters.length) (hs : g.stack = as'.reverse ++ rest) (hW : 2 * g.monitorRoom + (rest.map fun v => v.category).sum ≤ W) (hd : decode c.code g.pc = .ok (.invokestatic index, 3)) (hc : cells + kc ≤ R.cells) (hsl : slots + ks ≤ R.slots) :
    ∃ T' h' L, Stand p l e R s m args below meth c T' L (cells + kc) (slots + ks) ∧ T'.heap = h' ∧ Ow K Z h' n0 D' ∧ Fr n0 L ∧ ∀ target, Steps p.tables e below (T'.setTop { g with pc := g.pc + 3, stack := r.toList ++ rest }) target → Steps p.tables e below (T.setTop g) target := by
  subst hkc hks
  obtain ⟨_, _, ⟨T', L', k', n'⟩, -, X', ⟨Lc, hQ, hL, hk, hn⟩, st⟩ := callSH X hx hown (mvT hZ w1) (mvT hZ w2) (mvT hZ w3) (mvT hZ w4) hy (backOfWith (W := W) (hM h [] O) hZ w4 w3 hf hl) hg hsize (argsL := as') hlen hs hW hd (fun _ _ => ⟨rfl, eT, hc, hsl⟩)
  dsimp only [Pt.U, Pt.locs, Pt.cells, Pt.slots] at X' hL hk hn st hQ
  subst hL hk hn
  obtain ⟨rfl, N', O'⟩ := hQ
  exact ⟨T', _, _, X', rfl, O', N.app N', st⟩
theorem callIW (X : Stand p l e R s m args below meth c T locs cells slots) (hx : p.tables.exec = Jvm.exec) (hZ : Z.Warmed39 s.vm) {own : String} {index : Nat} (hy1 : y.name = "<init>") (hown : s.vm.findClass own = some m.cls) (w1 : (Cond.methodLink own index y).before a0 Z = true) (w2 : (Cond.instanceMethod y).before a0 Z = true) (w3 : (Cond.initialized y.cls).before a0 Z = true) (w4 : (Cond.code y bytes maxL none).before a0 Z = true)
    (hy : y.cls ≠ "java/lang/invoke/MethodHandle" ∧ y.cls ≠ "java/lang/invoke/VarHandle") (eT : T.heap = h) (O : Ow K Z h n0 D) (N : Fr n0 locs) {as' : List Value} (hM : Ct K l Z y (.code y bytes maxL none) rm n0 D (.ref (n0 + a) :: as').toArray r D') {W kc ks : Nat} (hkc : rm.cells = kc) (hks : rm.slots = ks) (hf : rm.frames + 1 ≤ R.frames) (hl : W + (maxL + 11) + rm.locals ≤ R.locals)
    {g : JFrame} (hg : g.method = m) (hsize : g.locals.size = c.maxLocals) {rest : List Value} (hlen : ∀ sig, parseMethodDescriptor y.desc = some sig → as'.length = sig.parameters.length) (hs : g.stack = as'.reverse ++ .ref (n0 + a) :: rest) (hW : 2 * g.monitorRoom + (rest.map fun v => v.category).sum ≤ W) (hd : decode c.code g.pc = .ok (.invokespecial index, 3)) (hc : cells + kc ≤ R.cells) (hsl : slots + ks ≤ R.slots) :
    ∃ T' h' L, Stand p l e R s m args below meth c T' L (cells + kc) (slots + ks) ∧ T'.heap = h' ∧ Ow K Z h' n0 D' ∧ Fr n0 L ∧ ∀ target, Steps p.tables e below (T'.setTop { g with pc := g.pc + 3, stack := r.toList ++ rest }) target → Steps p.tables e below (T.setTop g) target := by
  subst hkc hks
  obtain ⟨_, _, ⟨T', L', k', n'⟩, -, X', ⟨Lc, hQ, hL, hk, hn⟩, st⟩ := Jvm.LawKit.callI X hx hown hy1 (mvT hZ w1) (mvT hZ w2) (mvT hZ w4) hy (backOf (W := W) (hM h [] O) hZ w4 w3 hf hl) hg hsize (argsL := as') hlen hs hW hd (fun _ _ => ⟨rfl, eT, hc, hsl⟩)
  dsimp only [Pt.U, Pt.locs, Pt.cells, Pt.slots] at X' hL hk hn st hQ
  subst hL hk hn
  obtain ⟨rfl, N', O'⟩ := hQ
  exact ⟨T', _, _, X', rfl, O', N.app N', st⟩
theorem callVW (X : Stand p l e R s m args below meth c T locs cells slots) (hx : p.tables.exec = Jvm.exec) (hZ : Z.Warmed39 s.vm) {own C : String} {index : Nat} (hown : s.vm.findClass own = some m.cls) (w1 : (Cond.methodLink own index y).before a0 Z = true) (w2 : (Cond.declares y).before a0 Z = true) (w5 : (Cond.selects C y y).before a0 Z = true) (w6 : (Cond.instanceMethod y).before a0 Z = true) (w3 : (Cond.initialized y.cls).before a0 Z = true) (w4 : (Cond.code y bytes maxL ret).before a0 Z = true)
    (hy : y.cls ≠ "java/lang/invoke/MethodHandle" ∧ y.cls ≠ "java/lang/invoke/VarHandle") (eT : T.heap = h) (O : Ow K Z h n0 D) (N : Fr n0 locs) {q : Nat} (hck : ck D a t = some q) (hK : (K t).1 = .object C) {as' : List Value} (hM : Ct K l Z y (.code y bytes maxL ret) rm n0 D (.ref (n0 + a) :: as').toArray r D') {W kc ks : Nat} (hkc : rm.cells = kc) (hks : rm.slots = ks) (hf : rm.frames + 1 ≤ R.frames) (hl : W + (maxL + 11) + rm.locals ≤ R.locals)
    {g : JFrame} (hg : g.method = m) (hsize : g.locals.size = c.maxLocals) {rest : List Value} (hlen : ∀ sig, parseMethodDescriptor y.desc = some sig → as'.length = sig.parameters.length) (hs : g.stack = as'.reverse ++ .ref (n0 + a) :: rest) (hW : 2 * g.monitorRoom + (rest.map fun v => v.category).sum ≤ W) (hd : decode c.code g.pc = .ok (.invokevirtual index, 3)) (hc : cells + kc ≤ R.cells) (hsl : slots + ks ≤ R.slots) :
    ∃ T' h' L, Stand p l e R s m args below meth c T' L (cells + kc) (slots + ks) ∧ T'.heap = h' ∧ Ow K Z h' n0 D' ∧ Fr n0 L ∧ ∀ target, Steps p.tables e below (T'.setTop { g with pc := g.pc + 3, stack := r.toList ++ rest }) target → Steps p.tables e below (T.setTop g) target := by
  subst hkc hks
  obtain ⟨cq, kq, qa, qb, qc⟩ := isOf hZ eT (O.exaC hck hK)
  obtain ⟨_, _, ⟨T', L', k', n'⟩, -, X', ⟨Lc, hQ, hL, hk, hn⟩, st⟩ := X.virtualBack hx (y := y) (z := y) hown (mvT hZ w1) (mvT hZ w2) (notFace_of_selects (args := #[]) (mvT hZ w5)) (mvT hZ w5) (mvT hZ w6) hy (backOf (W := W) (hM h [] O) hZ w4 w3 hf hl) qa qc hg hsize (Steps.refl _) (argsL := as') hlen hs hW hd (fun _ _ => ⟨rfl, eT, hc, hsl⟩)
  dsimp only [Pt.U, Pt.locs, Pt.cells, Pt.slots] at X' hL hk hn st hQ
  subst hL hk hn
  obtain ⟨rfl, N', O'⟩ := hQ
  exact ⟨T', _, _, X', rfl, O', N.app N', fun target k => st.trans k⟩
theorem callPW (X : Stand p l e R s m args below meth c T locs cells slots) (hx : p.tables.exec = Jvm.exec) (hZ : Z.Warmed39 s.vm) {own C : String} {index nk : Nat} (hown : s.vm.findClass own = some m.cls) (w1 : (Cond.methodLink own index y).before a0 Z = true) (w2 : (Cond.privateMethod y).before a0 Z = true) (w5 : (Cond.instantiable y.cls nk).before a0 Z = true) (w6 : (Cond.instanceMethod y).before a0 Z = true) (w3 : (Cond.initialized y.cls).before a0 Z = true) (w4 : (Cond.code y bytes maxL ret).before a0 Z = true)
    (hy : y.cls ≠ "java/lang/invoke/MethodHandle" ∧ y.cls ≠ "java/lang/invoke/VarHandle") (eT : T.heap = h) (O : Ow K Z h n0 D) (N : Fr n0 locs) {q : Nat} (hck : ck D a t = some q) (hK : (K t).1 = .object C) {as' : List Value} (hM : Ct K l Z y (.code y bytes maxL ret) rm n0 D (.ref (n0 + a) :: as').toArray r D') {W kc ks : Nat} (hkc : rm.cells = kc) (hks : rm.slots = ks) (hf : rm.frames + 1 ≤ R.frames) (hl : W + (maxL + 11) + rm.locals ≤ R.locals)
    {g : JFrame} (hg : g.method = m) (hsize : g.locals.size = c.maxLocals) {rest : List Value} (hlen : ∀ sig, parseMethodDescriptor y.desc = some sig → as'.length = sig.parameters.length) (hs : g.stack = as'.reverse ++ .ref (n0 + a) :: rest) (hW : 2 * g.monitorRoom + (rest.map fun v => v.category).sum ≤ W) (hd : decode c.code g.pc = .ok (.invokevirtual index, 3)) (hc : cells + kc ≤ R.cells) (hsl : slots + ks ≤ R.slots) :
    ∃ T' h' L, Stand p l e R s m args below meth c T' L (cells + kc) (slots + ks) ∧ T'.heap = h' ∧ Ow K Z h' n0 D' ∧ Fr n0 L ∧ ∀ target, Steps p.tables e below (T'.setTop { g with pc := g.pc + 3, stack := r.toList ++ rest }) target → Steps p.tables e below (T.setTop g) target := by
  subst hkc hks
  obtain ⟨cC, kC, i1, i2, -, i4, -, -⟩ := Cond.instantiable_spec (mvT (args := args) hZ w5)
  have hpr := Cond.privateMethod_at (mvP (args := args) hZ w2)
  have hsel := selects_self_of_private i1 i2 (Bool.or_eq_false_iff.mp i4).1 hpr (mvT (args := args) hZ w6) hy
  obtain ⟨cq, qa, qb⟩ := (O.exaC hck hK).cell
  obtain ⟨_, _, ⟨T', L', k', n'⟩, -, X', ⟨Lc, hQ, hL, hk, hn⟩, st⟩ := X.privateBack hx (y := y) hown (mvT hZ w1) (mvT hZ w6) hsel hpr (mvT hZ w4) hy (backOf (W := W) (hM h [] O) hZ w4 w3 hf hl) hg hsize (Steps.refl _) (by rw [eT]; exact qa) qb (argsL := as') hlen hs hW hd (fun _ _ => ⟨rfl, eT, hc, hsl⟩)
  dsimp only [Pt.U, Pt.locs, Pt.cells, Pt.slots] at X' hL hk hn st hQ
  subst hL hk hn
  obtain ⟨rfl, N', O'⟩ := hQ
  exact ⟨T', _, _, X', rfl, O', N.app N', fun target k => st.trans k⟩
theorem cloneW (X : Stand p l e R s m args below meth c T locs cells slots) (hx : p.tables.exec = Jvm.exec) (hZ : Z.Warmed39 s.vm) {own ad : String} {index : Nat} {ty : FieldType} (hown : s.vm.findClass own = some m.cls) (had : ad = "[" ++ ty.toString)
    (w1 : (Cond.methodLink own index ⟨ad, "clone", "()Ljava/lang/Object;"⟩).before a0 Z = true) (w2 : (Cond.sameMethod ad "java/lang/Object" "clone" "()Ljava/lang/Object;").before a0 Z = true) (w3 : (Cond.native ⟨"java/lang/Object", "clone", "()Ljava/lang/Object;"⟩).before a0 Z = true)
    (w4 : (Cond.instanceMethod ⟨"java/lang/Object", "clone", "()Ljava/lang/Object;"⟩).before a0 Z = true) (w5 : (Cond.selects ad ⟨ad, "clone", "()Ljava/lang/Object;"⟩ ⟨"java/lang/Object", "clone", "()Ljava/lang/Object;"⟩).before a0 Z = true) (w6 : (Cond.castable ad "java/lang/Cloneable").before a0 Z = true)
    (eT : T.heap = h) (O : Ow K Z h n0 D) (hK : (K t).1 = .array ty) {cap : Nat} (hq : cA' D a t cap = some D') {g : JFrame} (hg : g.method = m) (hsize : g.locals.size = c.maxLocals) {rest : List Value} (hs : g.stack = .ref (n0 + a) :: rest) (hd : decode c.code g.pc = .ok (.invokevirtual index, 3))
    (hf : 1 ≤ R.frames) {W : Nat} (hW : 2 * g.monitorRoom + (rest.map fun v => v.category).sum ≤ W) (hl : W + 14 ≤ R.locals) (hc : cells + 1 ≤ R.cells) (hsl : slots + cap ≤ R.slots) :
    ∃ T' h', Stand p l e R s m args below meth c T' locs (cells + 1) (slots + cap) ∧ T'.heap = h' ∧ Ow K Z h' n0 D' ∧ ∀ target, Steps p.tables e below (T'.setTop { g with pc := g.pc + 3, stack := .ref (n0 + D.length) :: rest }) target → Steps p.tables e below (T.setTop g) target := by
  obtain ⟨vs, h1, h2, rfl⟩ := cA_e hq
  obtain ⟨E, cl, A, hsl', hlen, hfit⟩ := (O.2 a t vs h1).1 ty hK
  rw [← had] at E
  obtain ⟨c2, k, e1, e2, e3, e4, e5⟩ := E
  cases A.1.symm.trans e1
  obtain ⟨c1, cC, g1, g2, g3⟩ := Cond.castable_spec w6
  cases e2.symm.trans g1
  have hal : Z.vm.Alike T.vm := hZ.alike.trans X.warmed.alike
  have hsz : cl.slots.size = vs.length := by rw [hsl', sh_len]
  have hfc : ∀ i v, cl.slots[i]? = some v → Z.fitsSlot cl.cls .none i v = true := fun i v hv => by
    obtain ⟨-, k2, hk2, comp, hkind⟩ := A.2.1
    have e : Z.slotType? cl.cls .none i = some ty := by simp [State.slotType?, hk2, hkind]
    have hv' : ∃ w ∈ vs, sh n0 w = v := by
      rw [hsl'] at hv
      have hm : v ∈ vs.map (sh n0) := by
        have := Array.mem_of_getElem? hv
        simpa using this
      exact List.mem_map.mp hm
    obtain ⟨w, hw, rfl⟩ := hv'
    have hfw : fits ty (sh n0 w) = true := by
      have := hfit w hw
      cases w <;> first | exact this | (cases ty <;> first | (cases this; done) | rfl)
    simpa [State.fitsSlot, e] using hfw
  obtain ⟨vm', X', st⟩ := X.cloneArray hx hown (mv hZ w1) (mv hZ w2) (mv hZ w3) (mv hZ w4) (mv hZ w5) (a := n0 + a) (by rw [eT]; exact A.1) A.2.1.1 A.2.2 (by rw [hZ.alike.findClass]; exact e2) (by rw [hZ.alike.findClass]; exact g2) (by rw [hZ.alike.assignable]; exact g3)
    (fun i v hv => by have q := hfc i v hv; rw [← State.fitsSlot_setVm hal] at q; exact q) hg hsize hs hd hf (by omega) hc (by omega)
    (by obtain ⟨-, k2, hk2, comp, hkind⟩ := A.2.1; rw [hZ.alike.clonesLoader]; exact Vm.clonesLoader_of_array hk2 hkind)
  subst eT
  have hs0 := O.1
  refine ⟨_, _, X'.more (Nat.le_refl _) (by omega), rfl, O.push (h' := T.heap.push _) ⟨by simp, fun a c h => ?_⟩ (by simp) ⟨fun ty' hK' => ?_, fun C hK' => by rw [hK] at hK'; cases hK'⟩, by rw [← hs0]; exact st⟩
  · rw [Array.getElem?_push_lt (Array.getElem?_eq_some_iff.mp h).1]; exact (Array.getElem?_eq_getElem _).symm.trans h
  · cases hK.symm.trans hK'
    rw [← hs0, ← had]
    exact ⟨⟨_, k, Array.getElem?_push_size, e2, e3, rfl, e5⟩, _, ⟨Array.getElem?_push_size, ⟨fun _ z => (by cases z), A.2.1.2⟩, fun z => (by cases z)⟩, hsl', hlen, hfit⟩
theorem castW (X : Stand p l e R s m args below meth c T locs cells slots) (hx : p.tables.exec = Jvm.exec) (hZ : Z.Warmed39 s.vm) {own ad : String} {index : Nat} {ty : FieldType} (hown : s.vm.findClass own = some m.cls) (w : (Cond.classLink own index ad).before a0 Z = true) (had : ad = "[" ++ ty.toString) (eT : T.heap = h) (O : Ow K Z h n0 D) {q : Nat} (hck : ck D a t = some q) (hK : (K t).1 = .array ty)
    {g : JFrame} (hg : g.method = m) {rest : List Value} (hs : g.stack = .ref (n0 + a) :: rest) (hd : decode c.code g.pc = .ok (.checkcast index, 3)) : ∃ T', Stand p l e R s m args below meth c T' locs cells slots ∧ T'.heap = h ∧ ∀ target, Steps p.tables e below (T'.setTop { g with pc := g.pc + 3 }) target → Steps p.tables e below (T.setTop g) target := by
  obtain ⟨vs, h1⟩ := ck_e hck
  obtain ⟨E, -⟩ := (O.2 a t vs h1).1 ty hK
  rw [← had] at E
  exact castY X hx hZ hown w eT (Ins.self E) hg hs hd
end OwnLaws
def Kt1 : Kt := fun k => match k with
  | 0 => ((.array .int), [])
  | 1 => ((.object "com/example/planar_drawing_kit/planardrawingkit/inspect/CrossingQueue"), [("firstAt", "[I"), ("next", "[I"), ("previous", "[I"), ("rankOf", "[I")])
  | _ => (.int, [])
theorem lay1 {Z : State} {a0 : Array Value} (hw : ∀ d ∈ tables_1, d.before a0 Z = true) : Lay Kt1 Z a0 := by
  intro t C hC
  match t, hC with
  | 0, hC => cases hC
  | 1, hC =>
    cases hC
    refine ⟨fun q hq => ?_, by decide⟩
    have hq' : q ∈ [(("firstAt", "[I") : String × String), (("next", "[I") : String × String), (("previous", "[I") : String × String), (("rankOf", "[I") : String × String)] := hq
    simp only [List.mem_cons, List.not_mem_nil, or_false] at hq'
    rcases hq' with rfl | rfl | rfl | rfl
    · exact ⟨Or.inr (hw _ (List.mem_of_getElem? (i := 11) rfl)), _, (by decide : parseFieldDescriptor _ = some (.array .int))⟩
    · exact ⟨Or.inr (hw _ (List.mem_of_getElem? (i := 13) rfl)), _, (by decide : parseFieldDescriptor _ = some (.array .int))⟩
    · exact ⟨Or.inr (hw _ (List.mem_of_getElem? (i := 15) rfl)), _, (by decide : parseFieldDescriptor _ = some (.array .int))⟩
    · exact ⟨Or.inr (hw _ (List.mem_of_getElem? (i := 17) rfl)), _, (by decide : parseFieldDescriptor _ = some (.array .int))⟩
  | n + 2, hC => cases hC
theorem d3_0 : decode jdk_65_method_103_code 0 = .ok (.iconst 0, 1) := by decide +kernel
theorem d3_1 : decode jdk_65_method_103_code 1 = .ok (.istore_n 2, 1) := by decide +kernel
theorem d3_2 : decode jdk_65_method_103_code 2 = .ok (.aload_n 0, 1) := by decide +kernel
theorem d3_3 : decode jdk_65_method_103_code 3 = .ok (.arraylength, 1) := by decide +kernel
theorem d3_4 : decode jdk_65_method_103_code 4 = .ok (.istore_n 3, 1) := by decide +kernel
theorem d3_5 : decode jdk_65_method_103_code 5 = .ok (.iload_n 2, 1) := by decide +kernel
theorem d3_6 : decode jdk_65_method_103_code 6 = .ok (.iload_n 3, 1) := by decide +kernel
theorem d3_7 : decode jdk_65_method_103_code 7 = .ok (.if_icmp .ge 13, 3) := by decide +kernel
theorem d3_10 : decode jdk_65_method_103_code 10 = .ok (.aload_n 0, 1) := by decide +kernel
theorem d3_11 : decode jdk_65_method_103_code 11 = .ok (.iload_n 2, 1) := by decide +kernel
theorem d3_12 : decode jdk_65_method_103_code 12 = .ok (.iload_n 1, 1) := by decide +kernel
theorem d3_13 : decode jdk_65_method_103_code 13 = .ok (.iastore, 1) := by decide +kernel
theorem d3_14 : decode jdk_65_method_103_code 14 = .ok (.iinc 2 1, 3) := by decide +kernel
theorem d3_17 : decode jdk_65_method_103_code 17 = .ok (.goto (-12), 3) := by decide +kernel
theorem d3_20 : decode jdk_65_method_103_code 20 = .ok (.return_, 1) := by decide +kernel
theorem pn_3 : plainName "java/util/Arrays" = true := by first | (simp [plainName, overriddenIn]; done) | decide +kernel
def b3_5 : Nat → Hp → Nat → Int32 → Int32 → Int32 → Option (Hp)
  | 0, _, _, _, _, _ => none
  | fu + 1, D, ob0, i1, i2, i3 =>
  if i2 < i3 then ((wV D ob0 0 i2 (.int i1)).bind fun D3 =>
  b3_5 fu D3 ob0 i1 (i2 + (1 : Int32)) i3) else (some D)
set_option maxRecDepth 65536 in
set_option maxHeartbeats 40000000 in
theorem bt3_5 {p : Program} {l : Launch} {e : Env} {s : State} {m : MethodId} {args : Array Value} {below : List Frame} {meth : Method} {c : Code} {Z : State} {a0 : Array Value} {n0 : Nat} {D' : Hp} (hw : ∀ d ∈ tables_1, d.before a0 Z = true) (hC : Cx p s m meth c Z jdk_65_method_103_code 4 none "java/util/Arrays" "fill") (fu : Nat) : ∀ {T0 : State} {locs : List Loc} {cells slots : Nat} {h0 : Heap} {D : Hp} {ob0 : Nat} {i1 : Int32} {i2 : Int32} {i3 : Int32}, (Stand p l e ({ frames := 0, cells := 0, slots := 0, locals := 0 } : Room) s m args below meth c T0 locs cells slots) → (T0.heap = h0) → (Ow Kt1 Z h0 n0 D) → (Fr n0 locs) → (cells ≤ 0) → (slots ≤ 0) → (b3_5 fu D ob0 i1 i2 i3 = some D') → Gl p e below s 0 0 (Qw Kt1 Z n0 none D') (T0.setTop (mkF m 5 #[.val (.ref (n0 + ob0)), .val (.int i1), .val (.int i2), .val (.int i3)] [])) := by
  obtain ⟨hx, hZ, hby, hml, hown, hnm, hret, hlk⟩ := id hC
  have hml : c.maxLocals = 4 := hml
  induction fu with
  | zero => intro T0 locs cells slots h0 D ob0 i1 i2 i3 X0 e0 O0 N0 hcc hss hf; cases hf
  | succ fu ih =>
    intro T0 locs cells slots h0 D ob0 i1 i2 i3 X0 e0 O0 N0 hcc hss hf
    rw [b3_5] at hf
    refine Gl.on (B := T0.setTop (mkF m 7 #[.val (.ref (n0 + ob0)), .val (.int i1), .val (.int i2), .val (.int i3)] [(.int i3), (.int i2)])) (fun t k => ?_) ?_
    · show Steps p.tables e below (T0.setTop (mkF m 5 #[.val (.ref (n0 + ob0)), .val (.int i1), .val (.int i2), .val (.int i3)] [])) _
      refine XS.iloadN X0.here hx rfl (hb hby d3_5) rfl ?_
      show Steps p.tables e below (T0.setTop (mkF m 6 #[.val (.ref (n0 + ob0)), .val (.int i1), .val (.int i2), .val (.int i3)] [(.int i2)])) _
      refine XS.iloadN X0.here hx rfl (hb hby d3_6) rfl ?_
      exact k
    by_cases hc2 : i2 < i3
    · rw [if_pos hc2] at hf
      obtain ⟨D3, hq3, hf⟩ := own_bind hf
      obtain ⟨T3, h3, L3, X3, e3, O3, N3, st3⟩ := stIW X0 hx hZ e0 O0 N0 hq3 rfl (g := (mkF m 13 #[.val (.ref (n0 + ob0)), .val (.int i1), .val (.int i2), .val (.int i3)] [(.int i1), (.int i2), (.ref (n0 + ob0))])) rfl rfl (hb hby d3_13)
      refine Gl.on (B := T3.setTop (mkF m 5 #[.val (.ref (n0 + ob0)), .val (.int i1), .val (.int (i2 + (1 : Int32))), .val (.int i3)] [])) (fun t k => ?_) ?_
      · show Steps p.tables e below (T0.setTop (mkF m 7 #[.val (.ref (n0 + ob0)), .val (.int i1), .val (.int i2), .val (.int i3)] [(.int i3), (.int i2)])) _
        refine XS.icmpNo X0.here hx rfl (hb hby d3_7) rfl (tlt hc2).2.1 ?_
        show Steps p.tables e below (T0.setTop (mkF m 10 #[.val (.ref (n0 + ob0)), .val (.int i1), .val (.int i2), .val (.int i3)] [])) _
        refine XS.aloadN X0.here hx rfl (hb hby d3_10) rfl rfl ?_
        show Steps p.tables e below (T0.setTop (mkF m 11 #[.val (.ref (n0 + ob0)), .val (.int i1), .val (.int i2), .val (.int i3)] [(.ref (n0 + ob0))])) _
        refine XS.iloadN X0.here hx rfl (hb hby d3_11) rfl ?_
        show Steps p.tables e below (T0.setTop (mkF m 12 #[.val (.ref (n0 + ob0)), .val (.int i1), .val (.int i2), .val (.int i3)] [(.int i2), (.ref (n0 + ob0))])) _
        refine XS.iloadN X0.here hx rfl (hb hby d3_12) rfl ?_
        show Steps p.tables e below (T0.setTop (mkF m 13 #[.val (.ref (n0 + ob0)), .val (.int i1), .val (.int i2), .val (.int i3)] [(.int i1), (.int i2), (.ref (n0 + ob0))])) _
        refine st3 _ ?_
        show Steps p.tables e below (T3.setTop (mkF m 14 #[.val (.ref (n0 + ob0)), .val (.int i1), .val (.int i2), .val (.int i3)] [])) _
        refine XS.iinc X3.here hx rfl (hb hby d3_14) rfl (l' := #[.val (.ref (n0 + ob0)), .val (.int i1), .val (.int (i2 + (1 : Int32))), .val (.int i3)]) rfl ?_
        show Steps p.tables e below (T3.setTop (mkF m 17 #[.val (.ref (n0 + ob0)), .val (.int i1), .val (.int (i2 + (1 : Int32))), .val (.int i3)] [])) _
        refine XS.goto X3.here hx rfl (pc0 := 17) (pc' := 5) rfl (hb hby d3_17) (by decide) (by decide) ?_
        exact k
      exact ih X3 e3 O3 N3 (by omega) (by omega) hf
    · rw [if_neg hc2] at hf
      refine Gl.on (B := T0.setTop (mkF m 20 #[.val (.ref (n0 + ob0)), .val (.int i1), .val (.int i2), .val (.int i3)] [])) (fun t k => ?_) ?_
      · show Steps p.tables e below (T0.setTop (mkF m 7 #[.val (.ref (n0 + ob0)), .val (.int i1), .val (.int i2), .val (.int i3)] [(.int i3), (.int i2)])) _
        refine XS.icmpYes X0.here hx rfl (pc0 := 7) (pc' := 20) rfl (hb hby d3_7) rfl (flt hc2).2.1 (by decide) (by decide) ?_
        exact k
      obtain rfl := own_inj1 hf
      exact Gl.outV X0 hx hlk hret (hb hby d3_20) ⟨rfl, N0, by rw [e0]; exact O0⟩ (by show _ ≤ 0; omega) (by show _ ≤ 0; omega)
def f3 (D : Hp) (ob0 : Nat) (i1 : Int32) : Option (Hp) :=
  (lA D ob0 0).bind fun x1 =>
  b3_5 12 D ob0 i1 (0 : Int32) x1
theorem ef_3 (m : MethodId) (n0 : Nat) (ob0 : Nat) (i1 : Int32) : entryFrame m #[(.ref (n0 + ob0)), (.int i1)] 4 = mkF m 0 #[.val (.ref (n0 + ob0)), .val (.int i1), .unset, .unset] [] := by first | (simp [entryFrame, mkF, argsToLocals, Value.category]; done) | rfl
set_option maxRecDepth 65536 in
set_option maxHeartbeats 40000000 in
theorem ct3 {l : Launch} {Z : State} {a0 : Array Value} (hw : ∀ d ∈ tables_1, d.before a0 Z = true) {n0 : Nat} {D D' : Hp} {ob0 : Nat} {i1 : Int32} (hf : f3 D ob0 i1 = some D') :
    Ct Kt1 l Z (⟨"java/util/Arrays", "fill", "([II)V"⟩ : MethodName) (.code (⟨"java/util/Arrays", "fill", "([II)V"⟩ : MethodName) jdk_65_method_103_code 4 none) ({ frames := 0, cells := 0, slots := 0, locals := 0 } : Room) n0 D #[(.ref (n0 + ob0)), (.int i1)] none D' := by
  refine Ct.of (plainFor_of_name pn_3) ?_
  intro p e s m below meth c T0 h0 hC X0 e0 O0
  obtain ⟨hx, hZ, hby, hml, hown, hnm, hret, hlk⟩ := id hC
  have hml : c.maxLocals = 4 := hml
  have hown : s.vm.findClass "java/util/Arrays" = some m.cls := hown
  have hnm : meth.name = "fill" := hnm
  have N0 := Fr.nil n0
  refine Gl.on (fun t k => castTop (ef_3 m n0 ob0 i1) k) ?_
  rw [f3] at hf
  obtain ⟨x1, hx1, hf⟩ := own_bind hf
  refine Gl.on (B := T0.setTop (mkF m 5 #[.val (.ref (n0 + ob0)), .val (.int i1), .val (.int (0 : Int32)), .val (.int x1)] [])) (fun t k => ?_) ?_
  · show Steps p.tables e below (T0.setTop (mkF m 0 #[.val (.ref (n0 + ob0)), .val (.int i1), .unset, .unset] [])) _
    refine XS.iconst X0.here hx rfl (hb hby d3_0) ?_
    show Steps p.tables e below (T0.setTop (mkF m 1 #[.val (.ref (n0 + ob0)), .val (.int i1), .unset, .unset] [(.int (0 : Int32))])) _
    refine XS.istoreN X0.here hx rfl (hb hby d3_1) rfl (l' := #[.val (.ref (n0 + ob0)), .val (.int i1), .val (.int (0 : Int32)), .unset]) rfl ?_
    show Steps p.tables e below (T0.setTop (mkF m 2 #[.val (.ref (n0 + ob0)), .val (.int i1), .val (.int (0 : Int32)), .unset] [])) _
    refine XS.aloadN X0.here hx rfl (hb hby d3_2) rfl rfl ?_
    show Steps p.tables e below (T0.setTop (mkF m 3 #[.val (.ref (n0 + ob0)), .val (.int i1), .val (.int (0 : Int32)), .unset] [(.ref (n0 + ob0))])) _
    refine lenW' X0 hx hZ e0 O0 hx1 (ty := .int) rfl (g := (mkF m 3 #[.val (.ref (n0 + ob0)), .val (.int i1), .val (.int (0 : Int32)), .unset] [(.ref (n0 + ob0))])) rfl rfl (hb hby d3_3) _ ?_
    show Steps p.tables e below (T0.setTop (mkF m 4 #[.val (.ref (n0 + ob0)), .val (.int i1), .val (.int (0 : Int32)), .unset] [(.int x1)])) _
    refine XS.istoreN X0.here hx rfl (hb hby d3_4) rfl (l' := #[.val (.ref (n0 + ob0)), .val (.int i1), .val (.int (0 : Int32)), .val (.int x1)]) rfl ?_
    exact k
  exact bt3_5 hw hC 12 X0 e0 O0 N0 (by omega) (by omega) hf
theorem pd_0 : parseMethodDescriptor "([II)V" = some ⟨[(.array .int), .int], none⟩ := by decide +kernel
theorem d1_0 : decode prog_93_method_1_code 0 = .ok (.aload_n 0, 1) := by decide +kernel
theorem d1_1 : decode prog_93_method_1_code 1 = .ok (.invokespecial 3, 3) := by decide +kernel
theorem d1_4 : decode prog_93_method_1_code 4 = .ok (.aload_n 0, 1) := by decide +kernel
theorem d1_5 : decode prog_93_method_1_code 5 = .ok (.iload_n 2, 1) := by decide +kernel
theorem d1_6 : decode prog_93_method_1_code 6 = .ok (.newarray .int, 2) := by decide +kernel
theorem d1_8 : decode prog_93_method_1_code 8 = .ok (.putfield 9, 3) := by decide +kernel
theorem d1_11 : decode prog_93_method_1_code 11 = .ok (.aload_n 0, 1) := by decide +kernel
theorem d1_12 : decode prog_93_method_1_code 12 = .ok (.iload_n 1, 1) := by decide +kernel
theorem d1_13 : decode prog_93_method_1_code 13 = .ok (.newarray .int, 2) := by decide +kernel
theorem d1_15 : decode prog_93_method_1_code 15 = .ok (.putfield 15, 3) := by decide +kernel
theorem d1_18 : decode prog_93_method_1_code 18 = .ok (.aload_n 0, 1) := by decide +kernel
theorem d1_19 : decode prog_93_method_1_code 19 = .ok (.iload_n 1, 1) := by decide +kernel
theorem d1_20 : decode prog_93_method_1_code 20 = .ok (.newarray .int, 2) := by decide +kernel
theorem d1_22 : decode prog_93_method_1_code 22 = .ok (.putfield 18, 3) := by decide +kernel
theorem d1_25 : decode prog_93_method_1_code 25 = .ok (.aload_n 0, 1) := by decide +kernel
theorem d1_26 : decode prog_93_method_1_code 26 = .ok (.iload_n 1, 1) := by decide +kernel
theorem d1_27 : decode prog_93_method_1_code 27 = .ok (.newarray .int, 2) := by decide +kernel
theorem d1_29 : decode prog_93_method_1_code 29 = .ok (.putfield 21, 3) := by decide +kernel
theorem d1_32 : decode prog_93_method_1_code 32 = .ok (.aload_n 0, 1) := by decide +kernel
theorem d1_33 : decode prog_93_method_1_code 33 = .ok (.getfield 9, 3) := by decide +kernel
theorem d1_36 : decode prog_93_method_1_code 36 = .ok (.iconst (-1), 1) := by decide +kernel
theorem d1_37 : decode prog_93_method_1_code 37 = .ok (.invokestatic 24, 3) := by decide +kernel
theorem d1_40 : decode prog_93_method_1_code 40 = .ok (.aload_n 0, 1) := by decide +kernel
theorem d1_41 : decode prog_93_method_1_code 41 = .ok (.getfield 21, 3) := by decide +kernel
theorem d1_44 : decode prog_93_method_1_code 44 = .ok (.iconst (-1), 1) := by decide +kernel
theorem d1_45 : decode prog_93_method_1_code 45 = .ok (.invokestatic 24, 3) := by decide +kernel
theorem d1_48 : decode prog_93_method_1_code 48 = .ok (.return_, 1) := by decide +kernel
theorem pn_1 : plainName "com/example/planar_drawing_kit/planardrawingkit/inspect/CrossingQueue" = true := by first | (simp [plainName, overriddenIn]; done) | decide +kernel
def f1 (D : Hp) (ob0 : Nat) (i1 : Int32) (i2 : Int32) : Option (Hp) :=
  own_let (D.length) fun a2 => (nA D 0 i2 8 (.int (0 : Int32))).bind fun D2 =>
  (pV D2 ob0 1 0 (.ref a2)).bind fun D3 =>
  own_let (D3.length) fun a4 => (nA D3 0 i1 8 (.int (0 : Int32))).bind fun D4 =>
  (pV D4 ob0 1 1 (.ref a4)).bind fun D5 =>
  own_let (D5.length) fun a6 => (nA D5 0 i1 8 (.int (0 : Int32))).bind fun D6 =>
  (pV D6 ob0 1 2 (.ref a6)).bind fun D7 =>
  own_let (D7.length) fun a8 => (nA D7 0 i1 8 (.int (0 : Int32))).bind fun D8 =>
  (pV D8 ob0 1 3 (.ref a8)).bind fun D9 =>
  (gR D9 ob0 1 0).bind fun x10 =>
  (f3 D9 x10 (-1 : Int32)).bind fun D12 =>
  (gR D12 ob0 1 3).bind fun x13 =>
  (f3 D12 x13 (-1 : Int32)).bind fun D15 =>
  some D15
theorem ef_1 (m : MethodId) (n0 : Nat) (ob0 : Nat) (i1 : Int32) (i2 : Int32) : entryFrame m #[(.ref (n0 + ob0)), (.int i1), (.int i2)] 3 = mkF m 0 #[.val (.ref (n0 + ob0)), .val (.int i1), .val (.int i2)] [] := by first | (simp [entryFrame, mkF, argsToLocals, Value.category]; done) | rfl
set_option maxRecDepth 65536 in
set_option maxHeartbeats 40000000 in
theorem ct1 {l : Launch} {Z : State} {a0 : Array Value} (hw : ∀ d ∈ tables_1, d.before a0 Z = true) {n0 : Nat} {D D' : Hp} {ob0 : Nat} {i1 : Int32} {i2 : Int32} (hf : f1 D ob0 i1 i2 = some D') :
    Ct Kt1 l Z (⟨"com/example/planar_drawing_kit/planardrawingkit/inspect/CrossingQueue", "<init>", "(II)V"⟩ : MethodName) (.code (⟨"com/example/planar_drawing_kit/planardrawingkit/inspect/CrossingQueue", "<init>", "(II)V"⟩ : MethodName) prog_93_method_1_code 3 none) ({ frames := 1, cells := 4, slots := 32, locals := 15 } : Room) n0 D #[(.ref (n0 + ob0)), (.int i1), (.int i2)] none D' := by
  refine Ct.of (plainFor_of_name pn_1) ?_
  intro p e s m below meth c T0 h0 hC X0 e0 O0
  obtain ⟨hx, hZ, hby, hml, hown, hnm, hret, hlk⟩ := id hC
  have hml : c.maxLocals = 3 := hml
  have hown : s.vm.findClass "com/example/planar_drawing_kit/planardrawingkit/inspect/CrossingQueue" = some m.cls := hown
  have hnm : meth.name = "<init>" := hnm
  have N0 := Fr.nil n0
  refine Gl.on (fun t k => castTop (ef_1 m n0 ob0 i1 i2) k) ?_
  rw [f1] at hf
  obtain ⟨T1, X1, e1, st1⟩ := initO X0 hx hZ hown (hw _ (List.mem_of_getElem? (i := 6) rfl)) (hw _ (List.mem_of_getElem? (i := 7) rfl)) (hw _ (List.mem_of_getElem? (i := 8) rfl)) e0 (g := (mkF m 1 #[.val (.ref (n0 + ob0)), .val (.int i1), .val (.int i2)] [(.ref (n0 + ob0))])) rfl (by rw [hml]; rfl) rfl (hb hby d1_1) (by decide) (W := 0) (by show 2 * 0 + _ ≤ _; exact Nat.le_of_eq rfl) (by decide)
  obtain ⟨a2, ha2, hf⟩ := own_letE hf
  obtain ⟨D2, hD2, hf⟩ := own_bind hf
  obtain ⟨T2, h2, X2, e2, O2, st2⟩ := newAW X1 hx hZ (aty := .int) (hw _ (List.mem_of_getElem? (i := 9) rfl)) e1 O0 rfl rfl hD2 (g := (mkF m 6 #[.val (.ref (n0 + ob0)), .val (.int i1), .val (.int i2)] [(.int i2), (.ref (n0 + ob0))])) rfl (hb hby d1_6) rfl (by decide) (by show _ + 1 ≤ 4; omega) (by show _ + 8 ≤ 32; omega)
  rw [ha2] at st2
  obtain ⟨D3, hq3, hf⟩ := own_bind hf
  obtain ⟨T3, h3, L3, X3, e3, O3, N3, st3⟩ := putW X2 hx hZ hown (hw _ (List.mem_of_getElem? (i := 10) rfl)) (lay1 hw) e2 O2 N0 hq3 rfl rfl (Or.inr ⟨(hw _ (List.mem_of_getElem? (i := 11) rfl)), rfl, hnm⟩) (hw _ (List.mem_of_getElem? (i := 1) rfl)) (ty := (.array .int)) (by decide) rfl rfl (g := (mkF m 8 #[.val (.ref (n0 + ob0)), .val (.int i1), .val (.int i2)] [(.ref (n0 + a2)), (.ref (n0 + ob0))])) rfl rfl (hb hby d1_8)
  obtain ⟨a4, ha4, hf⟩ := own_letE hf
  obtain ⟨D4, hD4, hf⟩ := own_bind hf
  obtain ⟨T4, h4, X4, e4, O4, st4⟩ := newAW X3 hx hZ (aty := .int) (hw _ (List.mem_of_getElem? (i := 9) rfl)) e3 O3 rfl rfl hD4 (g := (mkF m 13 #[.val (.ref (n0 + ob0)), .val (.int i1), .val (.int i2)] [(.int i1), (.ref (n0 + ob0))])) rfl (hb hby d1_13) rfl (by decide) (by show _ + 1 ≤ 4; omega) (by show _ + 8 ≤ 32; omega)
  rw [ha4] at st4
  obtain ⟨D5, hq5, hf⟩ := own_bind hf
  obtain ⟨T5, h5, L5, X5, e5, O5, N5, st5⟩ := putW X4 hx hZ hown (hw _ (List.mem_of_getElem? (i := 12) rfl)) (lay1 hw) e4 O4 N3 hq5 rfl rfl (Or.inr ⟨(hw _ (List.mem_of_getElem? (i := 13) rfl)), rfl, hnm⟩) (hw _ (List.mem_of_getElem? (i := 1) rfl)) (ty := (.array .int)) (by decide) rfl rfl (g := (mkF m 15 #[.val (.ref (n0 + ob0)), .val (.int i1), .val (.int i2)] [(.ref (n0 + a4)), (.ref (n0 + ob0))])) rfl rfl (hb hby d1_15)
  obtain ⟨a6, ha6, hf⟩ := own_letE hf
  obtain ⟨D6, hD6, hf⟩ := own_bind hf
  obtain ⟨T6, h6, X6, e6, O6, st6⟩ := newAW X5 hx hZ (aty := .int) (hw _ (List.mem_of_getElem? (i := 9) rfl)) e5 O5 rfl rfl hD6 (g := (mkF m 20 #[.val (.ref (n0 + ob0)), .val (.int i1), .val (.int i2)] [(.int i1), (.ref (n0 + ob0))])) rfl (hb hby d1_20) rfl (by decide) (by show _ + 1 ≤ 4; omega) (by show _ + 8 ≤ 32; omega)
  rw [ha6] at st6
  obtain ⟨D7, hq7, hf⟩ := own_bind hf
  obtain ⟨T7, h7, L7, X7, e7, O7, N7, st7⟩ := putW X6 hx hZ hown (hw _ (List.mem_of_getElem? (i := 14) rfl)) (lay1 hw) e6 O6 N5 hq7 rfl rfl (Or.inr ⟨(hw _ (List.mem_of_getElem? (i := 15) rfl)), rfl, hnm⟩) (hw _ (List.mem_of_getElem? (i := 1) rfl)) (ty := (.array .int)) (by decide) rfl rfl (g := (mkF m 22 #[.val (.ref (n0 + ob0)), .val (.int i1), .val (.int i2)] [(.ref (n0 + a6)), (.ref (n0 + ob0))])) rfl rfl (hb hby d1_22)
  obtain ⟨a8, ha8, hf⟩ := own_letE hf
  obtain ⟨D8, hD8, hf⟩ := own_bind hf
  obtain ⟨T8, h8, X8, e8, O8, st8⟩ := newAW X7 hx hZ (aty := .int) (hw _ (List.mem_of_getElem? (i := 9) rfl)) e7 O7 rfl rfl hD8 (g := (mkF m 27 #[.val (.ref (n0 + ob0)), .val (.int i1), .val (.int i2)] [(.int i1), (.ref (n0 + ob0))])) rfl (hb hby d1_27) rfl (by decide) (by show _ + 1 ≤ 4; omega) (by show _ + 8 ≤ 32; omega)
  rw [ha8] at st8
  obtain ⟨D9, hq9, hf⟩ := own_bind hf
  obtain ⟨T9, h9, L9, X9, e9, O9, N9, st9⟩ := putW X8 hx hZ hown (hw _ (List.mem_of_getElem? (i := 16) rfl)) (lay1 hw) e8 O8 N7 hq9 rfl rfl (Or.inr ⟨(hw _ (List.mem_of_getElem? (i := 17) rfl)), rfl, hnm⟩) (hw _ (List.mem_of_getElem? (i := 1) rfl)) (ty := (.array .int)) (by decide) rfl rfl (g := (mkF m 29 #[.val (.ref (n0 + ob0)), .val (.int i1), .val (.int i2)] [(.ref (n0 + a8)), (.ref (n0 + ob0))])) rfl rfl (hb hby d1_29)
  obtain ⟨x10, hx10, hf⟩ := own_bind hf
  obtain ⟨T11, X11, e11, st11⟩ := getF X9 hx hZ hown (host := "") (Or.inl (hw _ (List.mem_of_getElem? (i := 10) rfl))) Via.refl e9 (O9.fld (gR_e hx10) rfl rfl) (g := (mkF m 33 #[.val (.ref (n0 + ob0)), .val (.int i1), .val (.int i2)] [(.ref (n0 + ob0))])) rfl rfl (hb hby d1_33)
  obtain ⟨D12, hq12, hf⟩ := own_bind hf
  obtain ⟨T12, h12, L12, X12, e12, O12, N12, st12⟩ := callSW X11 hx hZ (y := (⟨"java/util/Arrays", "fill", "([II)V"⟩ : MethodName)) hown (hw _ (List.mem_of_getElem? (i := 18) rfl)) (hw _ (List.mem_of_getElem? (i := 19) rfl)) (hw _ (List.mem_of_getElem? (i := 20) rfl)) (hw _ (List.mem_of_getElem? (i := 21) rfl)) (by decide) e11 O9 N9 (as' := [(.ref (n0 + x10)), (.int (-1 : Int32))]) (ct3 hw hq12) (W := 0) (kc := 0) (ks := 0) rfl rfl (by decide) (by decide) (g := (mkF m 37 #[.val (.ref (n0 + ob0)), .val (.int i1), .val (.int i2)] [(.int (-1 : Int32)), (.ref (n0 + x10))])) rfl (by rw [hml]; rfl) (rest := []) (lenOf pd_0 rfl) rfl (by show 2 * 0 + _ ≤ _; exact Nat.le_of_eq rfl) (hb hby d1_37) (by show _ + 0 ≤ 4; omega) (by show _ + 0 ≤ 32; omega)
  obtain ⟨x13, hx13, hf⟩ := own_bind hf
  obtain ⟨T14, X14, e14, st14⟩ := getF X12 hx hZ hown (host := "") (Or.inl (hw _ (List.mem_of_getElem? (i := 16) rfl))) Via.refl e12 (O12.fld (gR_e hx13) rfl rfl) (g := (mkF m 41 #[.val (.ref (n0 + ob0)), .val (.int i1), .val (.int i2)] [(.ref (n0 + ob0))])) rfl rfl (hb hby d1_41)
  obtain ⟨D15, hq15, hf⟩ := own_bind hf
  obtain ⟨T15, h15, L15, X15, e15, O15, N15, st15⟩ := callSW X14 hx hZ (y := (⟨"java/util/Arrays", "fill", "([II)V"⟩ : MethodName)) hown (hw _ (List.mem_of_getElem? (i := 18) rfl)) (hw _ (List.mem_of_getElem? (i := 19) rfl)) (hw _ (List.mem_of_getElem? (i := 20) rfl)) (hw _ (List.mem_of_getElem? (i := 21) rfl)) (by decide) e14 O12 N12 (as' := [(.ref (n0 + x13)), (.int (-1 : Int32))]) (ct3 hw hq15) (W := 0) (kc := 0) (ks := 0) rfl rfl (by decide) (by decide) (g := (mkF m 45 #[.val (.ref (n0 + ob0)), .val (.int i1), .val (.int i2)] [(.int (-1 : Int32)), (.ref (n0 + x13))])) rfl (by rw [hml]; rfl) (rest := []) (lenOf pd_0 rfl) rfl (by show 2 * 0 + _ ≤ _; exact Nat.le_of_eq rfl) (hb hby d1_45) (by show _ + 0 ≤ 4; omega) (by show _ + 0 ≤ 32; omega)
  refine Gl.on (B := T15.setTop (mkF m 48 #[.val (.ref (n0 + ob0)), .val (.int i1), .val (.int i2)] [])) (fun t k => ?_) ?_
  · show Steps p.tables e below (T0.setTop (mkF m 0 #[.val (.ref (n0 + ob0)), .val (.int i1), .val (.int i2)] [])) _
    refine XS.aloadN X0.here hx rfl (hb hby d1_0) rfl rfl ?_
    show Steps p.tables e below (T0.setTop (mkF m 1 #[.val (.ref (n0 + ob0)), .val (.int i1), .val (.int i2)] [(.ref (n0 + ob0))])) _
    refine st1 _ ?_
    show Steps p.tables e below (T1.setTop (mkF m 4 #[.val (.ref (n0 + ob0)), .val (.int i1), .val (.int i2)] [])) _
    refine XS.aloadN X1.here hx rfl (hb hby d1_4) rfl rfl ?_
    show Steps p.tables e below (T1.setTop (mkF m 5 #[.val (.ref (n0 + ob0)), .val (.int i1), .val (.int i2)] [(.ref (n0 + ob0))])) _
    refine XS.iloadN X1.here hx rfl (hb hby d1_5) rfl ?_
    show Steps p.tables e below (T1.setTop (mkF m 6 #[.val (.ref (n0 + ob0)), .val (.int i1), .val (.int i2)] [(.int i2), (.ref (n0 + ob0))])) _
    refine st2 _ ?_
    show Steps p.tables e below (T2.setTop (mkF m 8 #[.val (.ref (n0 + ob0)), .val (.int i1), .val (.int i2)] [(.ref (n0 + a2)), (.ref (n0 + ob0))])) _
    refine st3 _ ?_
    show Steps p.tables e below (T3.setTop (mkF m 11 #[.val (.ref (n0 + ob0)), .val (.int i1), .val (.int i2)] [])) _
    refine XS.aloadN X3.here hx rfl (hb hby d1_11) rfl rfl ?_
    show Steps p.tables e below (T3.setTop (mkF m 12 #[.val (.ref (n0 + ob0)), .val (.int i1), .val (.int i2)] [(.ref (n0 + ob0))])) _
    refine XS.iloadN X3.here hx rfl (hb hby d1_12) rfl ?_
    show Steps p.tables e below (T3.setTop (mkF m 13 #[.val (.ref (n0 + ob0)), .val (.int i1), .val (.int i2)] [(.int i1), (.ref (n0 + ob0))])) _
    refine st4 _ ?_
    show Steps p.tables e below (T4.setTop (mkF m 15 #[.val (.ref (n0 + ob0)), .val (.int i1), .val (.int i2)] [(.ref (n0 + a4)), (.ref (n0 + ob0))])) _
    refine st5 _ ?_
    show Steps p.tables e below (T5.setTop (mkF m 18 #[.val (.ref (n0 + ob0)), .val (.int i1), .val (.int i2)] [])) _
    refine XS.aloadN X5.here hx rfl (hb hby d1_18) rfl rfl ?_
    show Steps p.tables e below (T5.setTop (mkF m 19 #[.val (.ref (n0 + ob0)), .val (.int i1), .val (.int i2)] [(.ref (n0 + ob0))])) _
    refine XS.iloadN X5.here hx rfl (hb hby d1_19) rfl ?_
    show Steps p.tables e below (T5.setTop (mkF m 20 #[.val (.ref (n0 + ob0)), .val (.int i1), .val (.int i2)] [(.int i1), (.ref (n0 + ob0))])) _
    refine st6 _ ?_
    show Steps p.tables e below (T6.setTop (mkF m 22 #[.val (.ref (n0 + ob0)), .val (.int i1), .val (.int i2)] [(.ref (n0 + a6)), (.ref (n0 + ob0))])) _
    refine st7 _ ?_
    show Steps p.tables e below (T7.setTop (mkF m 25 #[.val (.ref (n0 + ob0)), .val (.int i1), .val (.int i2)] [])) _
    refine XS.aloadN X7.here hx rfl (hb hby d1_25) rfl rfl ?_
    show Steps p.tables e below (T7.setTop (mkF m 26 #[.val (.ref (n0 + ob0)), .val (.int i1), .val (.int i2)] [(.ref (n0 + ob0))])) _
    refine XS.iloadN X7.here hx rfl (hb hby d1_26) rfl ?_
    show Steps p.tables e below (T7.setTop (mkF m 27 #[.val (.ref (n0 + ob0)), .val (.int i1), .val (.int i2)] [(.int i1), (.ref (n0 + ob0))])) _
    refine st8 _ ?_
    show Steps p.tables e below (T8.setTop (mkF m 29 #[.val (.ref (n0 + ob0)), .val (.int i1), .val (.int i2)] [(.ref (n0 + a8)), (.ref (n0 + ob0))])) _
    refine st9 _ ?_
    show Steps p.tables e below (T9.setTop (mkF m 32 #[.val (.ref (n0 + ob0)), .val (.int i1), .val (.int i2)] [])) _
    refine XS.aloadN X9.here hx rfl (hb hby d1_32) rfl rfl ?_
    show Steps p.tables e below (T9.setTop (mkF m 33 #[.val (.ref (n0 + ob0)), .val (.int i1), .val (.int i2)] [(.ref (n0 + ob0))])) _
    refine st11 _ ?_
    show Steps p.tables e below (T11.setTop (mkF m 36 #[.val (.ref (n0 + ob0)), .val (.int i1), .val (.int i2)] [(.ref (n0 + x10))])) _
    refine XS.iconst X11.here hx rfl (hb hby d1_36) ?_
    show Steps p.tables e below (T11.setTop (mkF m 37 #[.val (.ref (n0 + ob0)), .val (.int i1), .val (.int i2)] [(.int (-1 : Int32)), (.ref (n0 + x10))])) _
    refine st12 _ ?_
    show Steps p.tables e below (T12.setTop (mkF m 40 #[.val (.ref (n0 + ob0)), .val (.int i1), .val (.int i2)] [])) _
    refine XS.aloadN X12.here hx rfl (hb hby d1_40) rfl rfl ?_
    show Steps p.tables e below (T12.setTop (mkF m 41 #[.val (.ref (n0 + ob0)), .val (.int i1), .val (.int i2)] [(.ref (n0 + ob0))])) _
    refine st14 _ ?_
    show Steps p.tables e below (T14.setTop (mkF m 44 #[.val (.ref (n0 + ob0)), .val (.int i1), .val (.int i2)] [(.ref (n0 + x13))])) _
    refine XS.iconst X14.here hx rfl (hb hby d1_44) ?_
    show Steps p.tables e below (T14.setTop (mkF m 45 #[.val (.ref (n0 + ob0)), .val (.int i1), .val (.int i2)] [(.int (-1 : Int32)), (.ref (n0 + x13))])) _
    refine st15 _ ?_
    exact k
  obtain rfl := own_inj1 hf
  exact Gl.outV X15 hx hlk hret (hb hby d1_48) ⟨rfl, N15, by rw [e15]; exact O15⟩ (by show _ ≤ 4; omega) (by show _ ≤ 32; omega)
theorem d8_0 : decode prog_93_method_2_code 0 = .ok (.aload_n 0, 1) := by decide +kernel
theorem d8_1 : decode prog_93_method_2_code 1 = .ok (.getfield 9, 3) := by decide +kernel
theorem d8_4 : decode prog_93_method_2_code 4 = .ok (.iload_n 2, 1) := by decide +kernel
theorem d8_5 : decode prog_93_method_2_code 5 = .ok (.iaload, 1) := by decide +kernel
theorem d8_6 : decode prog_93_method_2_code 6 = .ok (.istore_n 3, 1) := by decide +kernel
theorem d8_7 : decode prog_93_method_2_code 7 = .ok (.aload_n 0, 1) := by decide +kernel
theorem d8_8 : decode prog_93_method_2_code 8 = .ok (.getfield 15, 3) := by decide +kernel
theorem d8_11 : decode prog_93_method_2_code 11 = .ok (.iload_n 1, 1) := by decide +kernel
theorem d8_12 : decode prog_93_method_2_code 12 = .ok (.iload_n 3, 1) := by decide +kernel
theorem d8_13 : decode prog_93_method_2_code 13 = .ok (.iastore, 1) := by decide +kernel
theorem d8_14 : decode prog_93_method_2_code 14 = .ok (.aload_n 0, 1) := by decide +kernel
theorem d8_15 : decode prog_93_method_2_code 15 = .ok (.getfield 18, 3) := by decide +kernel
theorem d8_18 : decode prog_93_method_2_code 18 = .ok (.iload_n 1, 1) := by decide +kernel
theorem d8_19 : decode prog_93_method_2_code 19 = .ok (.iconst (-1), 1) := by decide +kernel
theorem d8_20 : decode prog_93_method_2_code 20 = .ok (.iastore, 1) := by decide +kernel
theorem d8_21 : decode prog_93_method_2_code 21 = .ok (.iload_n 3, 1) := by decide +kernel
theorem d8_22 : decode prog_93_method_2_code 22 = .ok (.iconst (-1), 1) := by decide +kernel
theorem d8_23 : decode prog_93_method_2_code 23 = .ok (.if_icmp .eq 10, 3) := by decide +kernel
theorem d8_26 : decode prog_93_method_2_code 26 = .ok (.aload_n 0, 1) := by decide +kernel
theorem d8_27 : decode prog_93_method_2_code 27 = .ok (.getfield 18, 3) := by decide +kernel
theorem d8_30 : decode prog_93_method_2_code 30 = .ok (.iload_n 3, 1) := by decide +kernel
theorem d8_31 : decode prog_93_method_2_code 31 = .ok (.iload_n 1, 1) := by decide +kernel
theorem d8_32 : decode prog_93_method_2_code 32 = .ok (.iastore, 1) := by decide +kernel
theorem d8_33 : decode prog_93_method_2_code 33 = .ok (.aload_n 0, 1) := by decide +kernel
theorem d8_34 : decode prog_93_method_2_code 34 = .ok (.getfield 9, 3) := by decide +kernel
theorem d8_37 : decode prog_93_method_2_code 37 = .ok (.iload_n 2, 1) := by decide +kernel
theorem d8_38 : decode prog_93_method_2_code 38 = .ok (.iload_n 1, 1) := by decide +kernel
theorem d8_39 : decode prog_93_method_2_code 39 = .ok (.iastore, 1) := by decide +kernel
theorem d8_40 : decode prog_93_method_2_code 40 = .ok (.aload_n 0, 1) := by decide +kernel
theorem d8_41 : decode prog_93_method_2_code 41 = .ok (.getfield 21, 3) := by decide +kernel
theorem d8_44 : decode prog_93_method_2_code 44 = .ok (.iload_n 1, 1) := by decide +kernel
theorem d8_45 : decode prog_93_method_2_code 45 = .ok (.iload_n 2, 1) := by decide +kernel
theorem d8_46 : decode prog_93_method_2_code 46 = .ok (.iastore, 1) := by decide +kernel
theorem d8_47 : decode prog_93_method_2_code 47 = .ok (.return_, 1) := by decide +kernel
theorem pn_8 : plainName "com/example/planar_drawing_kit/planardrawingkit/inspect/CrossingQueue" = true := by first | (simp [plainName, overriddenIn]; done) | decide +kernel
def b8_33 (D : Hp) (ob0 : Nat) (i1 : Int32) (i2 : Int32) : Option (Hp) :=
  (gR D ob0 1 0).bind fun x14 =>
  (wV D x14 0 i2 (.int i1)).bind fun D16 =>
  (gR D16 ob0 1 3).bind fun x17 =>
  (wV D16 x17 0 i1 (.int i2)).bind fun D19 =>
  some D19
set_option maxRecDepth 65536 in
set_option maxHeartbeats 40000000 in
theorem bt8_33 {p : Program} {l : Launch} {e : Env} {s : State} {m : MethodId} {args : Array Value} {below : List Frame} {meth : Method} {c : Code} {Z : State} {a0 : Array Value} {n0 : Nat} {D' : Hp} {T0 : State} {locs : List Loc} {cells slots : Nat} {h0 : Heap} {D : Hp} {ob0 : Nat} {i1 : Int32} {i2 : Int32} {i3 : Int32} (hw : ∀ d ∈ tables_1, d.before a0 Z = true) (hC : Cx p s m meth c Z prog_93_method_2_code 4 none "com/example/planar_drawing_kit/planardrawingkit/inspect/CrossingQueue" "add") (X0 : Stand p l e ({ frames := 0, cells := 0, slots := 0, locals := 0 } : Room) s m args below meth c T0 locs cells slots) (e0 : T0.heap = h0) (O0 : Ow Kt1 Z h0 n0 D) (N0 : Fr n0 locs) (hcc : cells ≤ 0) (hss : slots ≤ 0) (hf : b8_33 D ob0 i1 i2 = some D') : Gl p e below s 0 0 (Qw Kt1 Z n0 none D') (T0.setTop (mkF m 33 #[.val (.ref (n0 + ob0)), .val (.int i1), .val (.int i2), .val (.int i3)] [])) := by
  obtain ⟨hx, hZ, hby, hml, hown, hnm, hret, hlk⟩ := id hC
  have hml : c.maxLocals = 4 := hml
  rw [b8_33] at hf
  obtain ⟨x14, hx14, hf⟩ := own_bind hf
  obtain ⟨T15, X15, e15, st15⟩ := getF X0 hx hZ hown (host := "") (Or.inl (hw _ (List.mem_of_getElem? (i := 10) rfl))) Via.refl e0 (O0.fld (gR_e hx14) rfl rfl) (g := (mkF m 34 #[.val (.ref (n0 + ob0)), .val (.int i1), .val (.int i2), .val (.int i3)] [(.ref (n0 + ob0))])) rfl rfl (hb hby d8_34)
  obtain ⟨D16, hq16, hf⟩ := own_bind hf
  obtain ⟨T16, h16, L16, X16, e16, O16, N16, st16⟩ := stIW X15 hx hZ e15 O0 N0 hq16 rfl (g := (mkF m 39 #[.val (.ref (n0 + ob0)), .val (.int i1), .val (.int i2), .val (.int i3)] [(.int i1), (.int i2), (.ref (n0 + x14))])) rfl rfl (hb hby d8_39)
  obtain ⟨x17, hx17, hf⟩ := own_bind hf
  obtain ⟨T18, X18, e18, st18⟩ := getF X16 hx hZ hown (host := "") (Or.inl (hw _ (List.mem_of_getElem? (i := 16) rfl))) Via.refl e16 (O16.fld (gR_e hx17) rfl rfl) (g := (mkF m 41 #[.val (.ref (n0 + ob0)), .val (.int i1), .val (.int i2), .val (.int i3)] [(.ref (n0 + ob0))])) rfl rfl (hb hby d8_41)
  obtain ⟨D19, hq19, hf⟩ := own_bind hf
  obtain ⟨T19, h19, L19, X19, e19, O19, N19, st19⟩ := stIW X18 hx hZ e18 O16 N16 hq19 rfl (g := (mkF m 46 #[.val (.ref (n0 + ob0)), .val (.int i1), .val (.int i2), .val (.int i3)] [(.int i2), (.int i1), (.ref (n0 + x17))])) rfl rfl (hb hby d8_46)
  refine Gl.on (B := T19.setTop (mkF m 47 #[.val (.ref (n0 + ob0)), .val (.int i1), .val (.int i2), .val (.int i3)] [])) (fun t k => ?_) ?_
  · show Steps p.tables e below (T0.setTop (mkF m 33 #[.val (.ref (n0 + ob0)), .val (.int i1), .val (.int i2), .val (.int i3)] [])) _
    refine XS.aloadN X0.here hx rfl (hb hby d8_33) rfl rfl ?_
    show Steps p.tables e below (T0.setTop (mkF m 34 #[.val (.ref (n0 + ob0)), .val (.int i1), .val (.int i2), .val (.int i3)] [(.ref (n0 + ob0))])) _
    refine st15 _ ?_
    show Steps p.tables e below (T15.setTop (mkF m 37 #[.val (.ref (n0 + ob0)), .val (.int i1), .val (.int i2), .val (.int i3)] [(.ref (n0 + x14))])) _
    refine XS.iloadN X15.here hx rfl (hb hby d8_37) rfl ?_
    show Steps p.tables e below (T15.setTop (mkF m 38 #[.val (.ref (n0 + ob0)), .val (.int i1), .val (.int i2), .val (.int i3)] [(.int i2), (.ref (n0 + x14))])) _
    refine XS.iloadN X15.here hx rfl (hb hby d8_38) rfl ?_
    show Steps p.tables e below (T15.setTop (mkF m 39 #[.val (.ref (n0 + ob0)), .val (.int i1), .val (.int i2), .val (.int i3)] [(.int i1), (.int i2), (.ref (n0 + x14))])) _
    refine st16 _ ?_
    show Steps p.tables e below (T16.setTop (mkF m 40 #[.val (.ref (n0 + ob0)), .val (.int i1), .val (.int i2), .val (.int i3)] [])) _
    refine XS.aloadN X16.here hx rfl (hb hby d8_40) rfl rfl ?_
    show Steps p.tables e below (T16.setTop (mkF m 41 #[.val (.ref (n0 + ob0)), .val (.int i1), .val (.int i2), .val (.int i3)] [(.ref (n0 + ob0))])) _
    refine st18 _ ?_
    show Steps p.tables e below (T18.setTop (mkF m 44 #[.val (.ref (n0 + ob0)), .val (.int i1), .val (.int i2), .val (.int i3)] [(.ref (n0 + x17))])) _
    refine XS.iloadN X18.here hx rfl (hb hby d8_44) rfl ?_
    show Steps p.tables e below (T18.setTop (mkF m 45 #[.val (.ref (n0 + ob0)), .val (.int i1), .val (.int i2), .val (.int i3)] [(.int i1), (.ref (n0 + x17))])) _
    refine XS.iloadN X18.here hx rfl (hb hby d8_45) rfl ?_
    show Steps p.tables e below (T18.setTop (mkF m 46 #[.val (.ref (n0 + ob0)), .val (.int i1), .val (.int i2), .val (.int i3)] [(.int i2), (.int i1), (.ref (n0 + x17))])) _
    refine st19 _ ?_
    exact k
  obtain rfl := own_inj1 hf
  exact Gl.outV X19 hx hlk hret (hb hby d8_47) ⟨rfl, N19, by rw [e19]; exact O19⟩ (by show _ ≤ 0; omega) (by show _ ≤ 0; omega)
def f8 (D : Hp) (ob0 : Nat) (i1 : Int32) (i2 : Int32) : Option (Hp) :=
  (gR D ob0 1 0).bind fun x1 =>
  (rI D x1 0 i2).bind fun x3 =>
  (gR D ob0 1 1).bind fun x4 =>
  (wV D x4 0 i1 (.int x3)).bind fun D6 =>
  (gR D6 ob0 1 2).bind fun x7 =>
  (wV D6 x7 0 i1 (.int (-1 : Int32))).bind fun D9 =>
  if x3 = (-1 : Int32) then (b8_33 D9 ob0 i1 i2) else ((gR D9 ob0 1 2).bind fun x11 =>
  (wV D9 x11 0 x3 (.int i1)).bind fun D13 =>
  b8_33 D13 ob0 i1 i2)
theorem ef_8 (m : MethodId) (n0 : Nat) (ob0 : Nat) (i1 : Int32) (i2 : Int32) : entryFrame m #[(.ref (n0 + ob0)), (.int i1), (.int i2)] 4 = mkF m 0 #[.val (.ref (n0 + ob0)), .val (.int i1), .val (.int i2), .unset] [] := by first | (simp [entryFrame, mkF, argsToLocals, Value.category]; done) | rfl
set_option maxRecDepth 65536 in
set_option maxHeartbeats 40000000 in
theorem ct8 {l : Launch} {Z : State} {a0 : Array Value} (hw : ∀ d ∈ tables_1, d.before a0 Z = true) {n0 : Nat} {D D' : Hp} {ob0 : Nat} {i1 : Int32} {i2 : Int32} (hf : f8 D ob0 i1 i2 = some D') :
    Ct Kt1 l Z (⟨"com/example/planar_drawing_kit/planardrawingkit/inspect/CrossingQueue", "add", "(II)V"⟩ : MethodName) (.code (⟨"com/example/planar_drawing_kit/planardrawingkit/inspect/CrossingQueue", "add", "(II)V"⟩ : MethodName) prog_93_method_2_code 4 none) ({ frames := 0, cells := 0, slots := 0, locals := 0 } : Room) n0 D #[(.ref (n0 + ob0)), (.int i1), (.int i2)] none D' := by
  refine Ct.of (plainFor_of_name pn_8) ?_
  intro p e s m below meth c T0 h0 hC X0 e0 O0
  obtain ⟨hx, hZ, hby, hml, hown, hnm, hret, hlk⟩ := id hC
  have hml : c.maxLocals = 4 := hml
  have hown : s.vm.findClass "com/example/planar_drawing_kit/planardrawingkit/inspect/CrossingQueue" = some m.cls := hown
  have hnm : meth.name = "add" := hnm
  have N0 := Fr.nil n0
  refine Gl.on (fun t k => castTop (ef_8 m n0 ob0 i1 i2) k) ?_
  rw [f8] at hf
  obtain ⟨x1, hx1, hf⟩ := own_bind hf
  obtain ⟨T2, X2, e2, st2⟩ := getF X0 hx hZ hown (host := "") (Or.inl (hw _ (List.mem_of_getElem? (i := 10) rfl))) Via.refl e0 (O0.fld (gR_e hx1) rfl rfl) (g := (mkF m 1 #[.val (.ref (n0 + ob0)), .val (.int i1), .val (.int i2), .unset] [(.ref (n0 + ob0))])) rfl rfl (hb hby d8_1)
  obtain ⟨x3, hx3, hf⟩ := own_bind hf
  obtain ⟨x4, hx4, hf⟩ := own_bind hf
  obtain ⟨T5, X5, e5, st5⟩ := getF X2 hx hZ hown (host := "") (Or.inl (hw _ (List.mem_of_getElem? (i := 12) rfl))) Via.refl e2 (O0.fld (gR_e hx4) rfl rfl) (g := (mkF m 8 #[.val (.ref (n0 + ob0)), .val (.int i1), .val (.int i2), .val (.int x3)] [(.ref (n0 + ob0))])) rfl rfl (hb hby d8_8)
  obtain ⟨D6, hq6, hf⟩ := own_bind hf
  obtain ⟨T6, h6, L6, X6, e6, O6, N6, st6⟩ := stIW X5 hx hZ e5 O0 N0 hq6 rfl (g := (mkF m 13 #[.val (.ref (n0 + ob0)), .val (.int i1), .val (.int i2), .val (.int x3)] [(.int x3), (.int i1), (.ref (n0 + x4))])) rfl rfl (hb hby d8_13)
  obtain ⟨x7, hx7, hf⟩ := own_bind hf
  obtain ⟨T8, X8, e8, st8⟩ := getF X6 hx hZ hown (host := "") (Or.inl (hw _ (List.mem_of_getElem? (i := 14) rfl))) Via.refl e6 (O6.fld (gR_e hx7) rfl rfl) (g := (mkF m 15 #[.val (.ref (n0 + ob0)), .val (.int i1), .val (.int i2), .val (.int x3)] [(.ref (n0 + ob0))])) rfl rfl (hb hby d8_15)
  obtain ⟨D9, hq9, hf⟩ := own_bind hf
  obtain ⟨T9, h9, L9, X9, e9, O9, N9, st9⟩ := stIW X8 hx hZ e8 O6 N6 hq9 rfl (g := (mkF m 20 #[.val (.ref (n0 + ob0)), .val (.int i1), .val (.int i2), .val (.int x3)] [(.int (-1 : Int32)), (.int i1), (.ref (n0 + x7))])) rfl rfl (hb hby d8_20)
  refine Gl.on (B := T9.setTop (mkF m 23 #[.val (.ref (n0 + ob0)), .val (.int i1), .val (.int i2), .val (.int x3)] [(.int (-1 : Int32)), (.int x3)])) (fun t k => ?_) ?_
  · show Steps p.tables e below (T0.setTop (mkF m 0 #[.val (.ref (n0 + ob0)), .val (.int i1), .val (.int i2), .unset] [])) _
    refine XS.aloadN X0.here hx rfl (hb hby d8_0) rfl rfl ?_
    show Steps p.tables e below (T0.setTop (mkF m 1 #[.val (.ref (n0 + ob0)), .val (.int i1), .val (.int i2), .unset] [(.ref (n0 + ob0))])) _
    refine st2 _ ?_
    show Steps p.tables e below (T2.setTop (mkF m 4 #[.val (.ref (n0 + ob0)), .val (.int i1), .val (.int i2), .unset] [(.ref (n0 + x1))])) _
    refine XS.iloadN X2.here hx rfl (hb hby d8_4) rfl ?_
    show Steps p.tables e below (T2.setTop (mkF m 5 #[.val (.ref (n0 + ob0)), .val (.int i1), .val (.int i2), .unset] [(.int i2), (.ref (n0 + x1))])) _
    refine ldW X2 hx hZ e2 O0 hx3 rfl (g := (mkF m 5 #[.val (.ref (n0 + ob0)), .val (.int i1), .val (.int i2), .unset] [(.int i2), (.ref (n0 + x1))])) rfl rfl (hb hby d8_5) _ ?_
    show Steps p.tables e below (T2.setTop (mkF m 6 #[.val (.ref (n0 + ob0)), .val (.int i1), .val (.int i2), .unset] [(.int x3)])) _
    refine XS.istoreN X2.here hx rfl (hb hby d8_6) rfl (l' := #[.val (.ref (n0 + ob0)), .val (.int i1), .val (.int i2), .val (.int x3)]) rfl ?_
    show Steps p.tables e below (T2.setTop (mkF m 7 #[.val (.ref (n0 + ob0)), .val (.int i1), .val (.int i2), .val (.int x3)] [])) _
    refine XS.aloadN X2.here hx rfl (hb hby d8_7) rfl rfl ?_
    show Steps p.tables e below (T2.setTop (mkF m 8 #[.val (.ref (n0 + ob0)), .val (.int i1), .val (.int i2), .val (.int x3)] [(.ref (n0 + ob0))])) _
    refine st5 _ ?_
    show Steps p.tables e below (T5.setTop (mkF m 11 #[.val (.ref (n0 + ob0)), .val (.int i1), .val (.int i2), .val (.int x3)] [(.ref (n0 + x4))])) _
    refine XS.iloadN X5.here hx rfl (hb hby d8_11) rfl ?_
    show Steps p.tables e below (T5.setTop (mkF m 12 #[.val (.ref (n0 + ob0)), .val (.int i1), .val (.int i2), .val (.int x3)] [(.int i1), (.ref (n0 + x4))])) _
    refine XS.iloadN X5.here hx rfl (hb hby d8_12) rfl ?_
    show Steps p.tables e below (T5.setTop (mkF m 13 #[.val (.ref (n0 + ob0)), .val (.int i1), .val (.int i2), .val (.int x3)] [(.int x3), (.int i1), (.ref (n0 + x4))])) _
    refine st6 _ ?_
    show Steps p.tables e below (T6.setTop (mkF m 14 #[.val (.ref (n0 + ob0)), .val (.int i1), .val (.int i2), .val (.int x3)] [])) _
    refine XS.aloadN X6.here hx rfl (hb hby d8_14) rfl rfl ?_
    show Steps p.tables e below (T6.setTop (mkF m 15 #[.val (.ref (n0 + ob0)), .val (.int i1), .val (.int i2), .val (.int x3)] [(.ref (n0 + ob0))])) _
    refine st8 _ ?_
    show Steps p.tables e below (T8.setTop (mkF m 18 #[.val (.ref (n0 + ob0)), .val (.int i1), .val (.int i2), .val (.int x3)] [(.ref (n0 + x7))])) _
    refine XS.iloadN X8.here hx rfl (hb hby d8_18) rfl ?_
    show Steps p.tables e below (T8.setTop (mkF m 19 #[.val (.ref (n0 + ob0)), .val (.int i1), .val (.int i2), .val (.int x3)] [(.int i1), (.ref (n0 + x7))])) _
    refine XS.iconst X8.here hx rfl (hb hby d8_19) ?_
    show Steps p.tables e below (T8.setTop (mkF m 20 #[.val (.ref (n0 + ob0)), .val (.int i1), .val (.int i2), .val (.int x3)] [(.int (-1 : Int32)), (.int i1), (.ref (n0 + x7))])) _
    refine st9 _ ?_
    show Steps p.tables e below (T9.setTop (mkF m 21 #[.val (.ref (n0 + ob0)), .val (.int i1), .val (.int i2), .val (.int x3)] [])) _
    refine XS.iloadN X9.here hx rfl (hb hby d8_21) rfl ?_
    show Steps p.tables e below (T9.setTop (mkF m 22 #[.val (.ref (n0 + ob0)), .val (.int i1), .val (.int i2), .val (.int x3)] [(.int x3)])) _
    refine XS.iconst X9.here hx rfl (hb hby d8_22) ?_
    exact k
  by_cases hc10 : x3 = (-1 : Int32)
  · rw [if_pos hc10] at hf
    refine Gl.on (B := T9.setTop (mkF m 33 #[.val (.ref (n0 + ob0)), .val (.int i1), .val (.int i2), .val (.int x3)] [])) (fun t k => ?_) ?_
    · show Steps p.tables e below (T9.setTop (mkF m 23 #[.val (.ref (n0 + ob0)), .val (.int i1), .val (.int i2), .val (.int x3)] [(.int (-1 : Int32)), (.int x3)])) _
      refine XS.icmpYes X9.here hx rfl (pc0 := 23) (pc' := 33) rfl (hb hby d8_23) rfl (teq hc10).1 (by decide) (by decide) ?_
      exact k
    exact bt8_33 hw hC X9 e9 O9 N9 (by omega) (by omega) hf
  · rw [if_neg hc10] at hf
    obtain ⟨x11, hx11, hf⟩ := own_bind hf
    obtain ⟨T12, X12, e12, st12⟩ := getF X9 hx hZ hown (host := "") (Or.inl (hw _ (List.mem_of_getElem? (i := 14) rfl))) Via.refl e9 (O9.fld (gR_e hx11) rfl rfl) (g := (mkF m 27 #[.val (.ref (n0 + ob0)), .val (.int i1), .val (.int i2), .val (.int x3)] [(.ref (n0 + ob0))])) rfl rfl (hb hby d8_27)
    obtain ⟨D13, hq13, hf⟩ := own_bind hf
    obtain ⟨T13, h13, L13, X13, e13, O13, N13, st13⟩ := stIW X12 hx hZ e12 O9 N9 hq13 rfl (g := (mkF m 32 #[.val (.ref (n0 + ob0)), .val (.int i1), .val (.int i2), .val (.int x3)] [(.int i1), (.int x3), (.ref (n0 + x11))])) rfl rfl (hb hby d8_32)
    refine Gl.on (B := T13.setTop (mkF m 33 #[.val (.ref (n0 + ob0)), .val (.int i1), .val (.int i2), .val (.int x3)] [])) (fun t k => ?_) ?_
    · show Steps p.tables e below (T9.setTop (mkF m 23 #[.val (.ref (n0 + ob0)), .val (.int i1), .val (.int i2), .val (.int x3)] [(.int (-1 : Int32)), (.int x3)])) _
      refine XS.icmpNo X9.here hx rfl (hb hby d8_23) rfl (feq hc10).1 ?_
      show Steps p.tables e below (T9.setTop (mkF m 26 #[.val (.ref (n0 + ob0)), .val (.int i1), .val (.int i2), .val (.int x3)] [])) _
      refine XS.aloadN X9.here hx rfl (hb hby d8_26) rfl rfl ?_
      show Steps p.tables e below (T9.setTop (mkF m 27 #[.val (.ref (n0 + ob0)), .val (.int i1), .val (.int i2), .val (.int x3)] [(.ref (n0 + ob0))])) _
      refine st12 _ ?_
      show Steps p.tables e below (T12.setTop (mkF m 30 #[.val (.ref (n0 + ob0)), .val (.int i1), .val (.int i2), .val (.int x3)] [(.ref (n0 + x11))])) _
      refine XS.iloadN X12.here hx rfl (hb hby d8_30) rfl ?_
      show Steps p.tables e below (T12.setTop (mkF m 31 #[.val (.ref (n0 + ob0)), .val (.int i1), .val (.int i2), .val (.int x3)] [(.int x3), (.ref (n0 + x11))])) _
      refine XS.iloadN X12.here hx rfl (hb hby d8_31) rfl ?_
      show Steps p.tables e below (T12.setTop (mkF m 32 #[.val (.ref (n0 + ob0)), .val (.int i1), .val (.int i2), .val (.int x3)] [(.int i1), (.int x3), (.ref (n0 + x11))])) _
      refine st13 _ ?_
      exact k
    exact bt8_33 hw hC X13 e13 O13 N13 (by omega) (by omega) hf
theorem d4_0 : decode prog_93_method_3_code 0 = .ok (.aload_n 0, 1) := by decide +kernel
theorem d4_1 : decode prog_93_method_3_code 1 = .ok (.getfield 21, 3) := by decide +kernel
theorem d4_4 : decode prog_93_method_3_code 4 = .ok (.iload_n 1, 1) := by decide +kernel
theorem d4_5 : decode prog_93_method_3_code 5 = .ok (.iaload, 1) := by decide +kernel
theorem d4_6 : decode prog_93_method_3_code 6 = .ok (.istore_n 2, 1) := by decide +kernel
theorem d4_7 : decode prog_93_method_3_code 7 = .ok (.iload_n 2, 1) := by decide +kernel
theorem d4_8 : decode prog_93_method_3_code 8 = .ok (.iconst (-1), 1) := by decide +kernel
theorem d4_9 : decode prog_93_method_3_code 9 = .ok (.if_icmp .eq 79, 3) := by decide +kernel
theorem d4_12 : decode prog_93_method_3_code 12 = .ok (.aload_n 0, 1) := by decide +kernel
theorem d4_13 : decode prog_93_method_3_code 13 = .ok (.getfield 18, 3) := by decide +kernel
theorem d4_16 : decode prog_93_method_3_code 16 = .ok (.iload_n 1, 1) := by decide +kernel
theorem d4_17 : decode prog_93_method_3_code 17 = .ok (.iaload, 1) := by decide +kernel
theorem d4_18 : decode prog_93_method_3_code 18 = .ok (.iconst (-1), 1) := by decide +kernel
theorem d4_19 : decode prog_93_method_3_code 19 = .ok (.if_icmp .ne 18, 3) := by decide +kernel
theorem d4_22 : decode prog_93_method_3_code 22 = .ok (.aload_n 0, 1) := by decide +kernel
theorem d4_23 : decode prog_93_method_3_code 23 = .ok (.getfield 9, 3) := by decide +kernel
theorem d4_26 : decode prog_93_method_3_code 26 = .ok (.iload_n 2, 1) := by decide +kernel
theorem d4_27 : decode prog_93_method_3_code 27 = .ok (.aload_n 0, 1) := by decide +kernel
theorem d4_28 : decode prog_93_method_3_code 28 = .ok (.getfield 15, 3) := by decide +kernel
theorem d4_31 : decode prog_93_method_3_code 31 = .ok (.iload_n 1, 1) := by decide +kernel
theorem d4_32 : decode prog_93_method_3_code 32 = .ok (.iaload, 1) := by decide +kernel
theorem d4_33 : decode prog_93_method_3_code 33 = .ok (.iastore, 1) := by decide +kernel
theorem d4_34 : decode prog_93_method_3_code 34 = .ok (.goto 20, 3) := by decide +kernel
theorem d4_37 : decode prog_93_method_3_code 37 = .ok (.aload_n 0, 1) := by decide +kernel
theorem d4_38 : decode prog_93_method_3_code 38 = .ok (.getfield 15, 3) := by decide +kernel
theorem d4_41 : decode prog_93_method_3_code 41 = .ok (.aload_n 0, 1) := by decide +kernel
theorem d4_42 : decode prog_93_method_3_code 42 = .ok (.getfield 18, 3) := by decide +kernel
theorem d4_45 : decode prog_93_method_3_code 45 = .ok (.iload_n 1, 1) := by decide +kernel
theorem d4_46 : decode prog_93_method_3_code 46 = .ok (.iaload, 1) := by decide +kernel
theorem d4_47 : decode prog_93_method_3_code 47 = .ok (.aload_n 0, 1) := by decide +kernel
theorem d4_48 : decode prog_93_method_3_code 48 = .ok (.getfield 15, 3) := by decide +kernel
theorem d4_51 : decode prog_93_method_3_code 51 = .ok (.iload_n 1, 1) := by decide +kernel
theorem d4_52 : decode prog_93_method_3_code 52 = .ok (.iaload, 1) := by decide +kernel
theorem d4_53 : decode prog_93_method_3_code 53 = .ok (.iastore, 1) := by decide +kernel
theorem d4_54 : decode prog_93_method_3_code 54 = .ok (.aload_n 0, 1) := by decide +kernel
theorem d4_55 : decode prog_93_method_3_code 55 = .ok (.getfield 15, 3) := by decide +kernel
theorem d4_58 : decode prog_93_method_3_code 58 = .ok (.iload_n 1, 1) := by decide +kernel
theorem d4_59 : decode prog_93_method_3_code 59 = .ok (.iaload, 1) := by decide +kernel
theorem d4_60 : decode prog_93_method_3_code 60 = .ok (.iconst (-1), 1) := by decide +kernel
theorem d4_61 : decode prog_93_method_3_code 61 = .ok (.if_icmp .eq 20, 3) := by decide +kernel
theorem d4_64 : decode prog_93_method_3_code 64 = .ok (.aload_n 0, 1) := by decide +kernel
theorem d4_65 : decode prog_93_method_3_code 65 = .ok (.getfield 18, 3) := by decide +kernel
theorem d4_68 : decode prog_93_method_3_code 68 = .ok (.aload_n 0, 1) := by decide +kernel
theorem d4_69 : decode prog_93_method_3_code 69 = .ok (.getfield 15, 3) := by decide +kernel
theorem d4_72 : decode prog_93_method_3_code 72 = .ok (.iload_n 1, 1) := by decide +kernel
theorem d4_73 : decode prog_93_method_3_code 73 = .ok (.iaload, 1) := by decide +kernel
theorem d4_74 : decode prog_93_method_3_code 74 = .ok (.aload_n 0, 1) := by decide +kernel
theorem d4_75 : decode prog_93_method_3_code 75 = .ok (.getfield 18, 3) := by decide +kernel
theorem d4_78 : decode prog_93_method_3_code 78 = .ok (.iload_n 1, 1) := by decide +kernel
theorem d4_79 : decode prog_93_method_3_code 79 = .ok (.iaload, 1) := by decide +kernel
theorem d4_80 : decode prog_93_method_3_code 80 = .ok (.iastore, 1) := by decide +kernel
theorem d4_81 : decode prog_93_method_3_code 81 = .ok (.aload_n 0, 1) := by decide +kernel
theorem d4_82 : decode prog_93_method_3_code 82 = .ok (.getfield 21, 3) := by decide +kernel
theorem d4_85 : decode prog_93_method_3_code 85 = .ok (.iload_n 1, 1) := by decide +kernel
theorem d4_86 : decode prog_93_method_3_code 86 = .ok (.iconst (-1), 1) := by decide +kernel
theorem d4_87 : decode prog_93_method_3_code 87 = .ok (.iastore, 1) := by decide +kernel
theorem d4_88 : decode prog_93_method_3_code 88 = .ok (.return_, 1) := by decide +kernel
theorem pn_4 : plainName "com/example/planar_drawing_kit/planardrawingkit/inspect/CrossingQueue" = true := by first | (simp [plainName, overriddenIn]; done) | decide +kernel
def b4_54 (D : Hp) (ob0 : Nat) (i1 : Int32) : Option (Hp) :=
  (gR D ob0 1 1).bind fun x24 =>
  (rI D x24 0 i1).bind fun x26 =>
  if x26 = (-1 : Int32) then ((gR D ob0 1 3).bind fun x28 =>
  (wV D x28 0 i1 (.int (-1 : Int32))).bind fun D30 =>
  some D30) else ((gR D ob0 1 2).bind fun x31 =>
  (gR D ob0 1 1).bind fun x33 =>
  (rI D x33 0 i1).bind fun x35 =>
  (gR D ob0 1 2).bind fun x36 =>
  (rI D x36 0 i1).bind fun x38 =>
  (wV D x31 0 x35 (.int x38)).bind fun D39 =>
  (gR D39 ob0 1 3).bind fun x40 =>
  (wV D39 x40 0 i1 (.int (-1 : Int32))).bind fun D42 =>
  some D42)
set_option maxRecDepth 65536 in
set_option maxHeartbeats 40000000 in
theorem bt4_54 {p : Program} {l : Launch} {e : Env} {s : State} {m : MethodId} {args : Array Value} {below : List Frame} {meth : Method} {c : Code} {Z : State} {a0 : Array Value} {n0 : Nat} {D' : Hp} {T0 : State} {locs : List Loc} {cells slots : Nat} {h0 : Heap} {D : Hp} {ob0 : Nat} {i1 : Int32} {i2 : Int32} (hw : ∀ d ∈ tables_1, d.before a0 Z = true) (hC : Cx p s m meth c Z prog_93_method_3_code 3 none "com/example/planar_drawing_kit/planardrawingkit/inspect/CrossingQueue" "remove") (X0 : Stand p l e ({ frames := 0, cells := 0, slots := 0, locals := 0 } : Room) s m args below meth c T0 locs cells slots) (e0 : T0.heap = h0) (O0 : Ow Kt1 Z h0 n0 D) (N0 : Fr n0 locs) (hcc : cells ≤ 0) (hss : slots ≤ 0) (hf : b4_54 D ob0 i1 = some D') : Gl p e below s 0 0 (Qw Kt1 Z n0 none D') (T0.setTop (mkF m 54 #[.val (.ref (n0 + ob0)), .val (.int i1), .val (.int i2)] [])) := by
  obtain ⟨hx, hZ, hby, hml, hown, hnm, hret, hlk⟩ := id hC
  have hml : c.maxLocals = 3 := hml
  rw [b4_54] at hf
  obtain ⟨x24, hx24, hf⟩ := own_bind hf
  obtain ⟨T25, X25, e25, st25⟩ := getF X0 hx hZ hown (host := "") (Or.inl (hw _ (List.mem_of_getElem? (i := 12) rfl))) Via.refl e0 (O0.fld (gR_e hx24) rfl rfl) (g := (mkF m 55 #[.val (.ref (n0 + ob0)), .val (.int i1), .val (.int i2)] [(.ref (n0 + ob0))])) rfl rfl (hb hby d4_55)
  obtain ⟨x26, hx26, hf⟩ := own_bind hf
  refine Gl.on (B := T25.setTop (mkF m 61 #[.val (.ref (n0 + ob0)), .val (.int i1), .val (.int i2)] [(.int (-1 : Int32)), (.int x26)])) (fun t k => ?_) ?_
  · show Steps p.tables e below (T0.setTop (mkF m 54 #[.val (.ref (n0 + ob0)), .val (.int i1), .val (.int i2)] [])) _
    refine XS.aloadN X0.here hx rfl (hb hby d4_54) rfl rfl ?_
    show Steps p.tables e below (T0.setTop (mkF m 55 #[.val (.ref (n0 + ob0)), .val (.int i1), .val (.int i2)] [(.ref (n0 + ob0))])) _
    refine st25 _ ?_
    show Steps p.tables e below (T25.setTop (mkF m 58 #[.val (.ref (n0 + ob0)), .val (.int i1), .val (.int i2)] [(.ref (n0 + x24))])) _
    refine XS.iloadN X25.here hx rfl (hb hby d4_58) rfl ?_
    show Steps p.tables e below (T25.setTop (mkF m 59 #[.val (.ref (n0 + ob0)), .val (.int i1), .val (.int i2)] [(.int i1), (.ref (n0 + x24))])) _
    refine ldW X25 hx hZ e25 O0 hx26 rfl (g := (mkF m 59 #[.val (.ref (n0 + ob0)), .val (.int i1), .val (.int i2)] [(.int i1), (.ref (n0 + x24))])) rfl rfl (hb hby d4_59) _ ?_
    show Steps p.tables e below (T25.setTop (mkF m 60 #[.val (.ref (n0 + ob0)), .val (.int i1), .val (.int i2)] [(.int x26)])) _
    refine XS.iconst X25.here hx rfl (hb hby d4_60) ?_
    exact k
  by_cases hc27 : x26 = (-1 : Int32)
  · rw [if_pos hc27] at hf
    obtain ⟨x28, hx28, hf⟩ := own_bind hf
    obtain ⟨T29, X29, e29, st29⟩ := getF X25 hx hZ hown (host := "") (Or.inl (hw _ (List.mem_of_getElem? (i := 16) rfl))) Via.refl e25 (O0.fld (gR_e hx28) rfl rfl) (g := (mkF m 82 #[.val (.ref (n0 + ob0)), .val (.int i1), .val (.int i2)] [(.ref (n0 + ob0))])) rfl rfl (hb hby d4_82)
    obtain ⟨D30, hq30, hf⟩ := own_bind hf
    obtain ⟨T30, h30, L30, X30, e30, O30, N30, st30⟩ := stIW X29 hx hZ e29 O0 N0 hq30 rfl (g := (mkF m 87 #[.val (.ref (n0 + ob0)), .val (.int i1), .val (.int i2)] [(.int (-1 : Int32)), (.int i1), (.ref (n0 + x28))])) rfl rfl (hb hby d4_87)
    refine Gl.on (B := T30.setTop (mkF m 88 #[.val (.ref (n0 + ob0)), .val (.int i1), .val (.int i2)] [])) (fun t k => ?_) ?_
    · show Steps p.tables e below (T25.setTop (mkF m 61 #[.val (.ref (n0 + ob0)), .val (.int i1), .val (.int i2)] [(.int (-1 : Int32)), (.int x26)])) _
      refine XS.icmpYes X25.here hx rfl (pc0 := 61) (pc' := 81) rfl (hb hby d4_61) rfl (teq hc27).1 (by decide) (by decide) ?_
      show Steps p.tables e below (T25.setTop (mkF m 81 #[.val (.ref (n0 + ob0)), .val (.int i1), .val (.int i2)] [])) _
      refine XS.aloadN X25.here hx rfl (hb hby d4_81) rfl rfl ?_
      show Steps p.tables e below (T25.setTop (mkF m 82 #[.val (.ref (n0 + ob0)), .val (.int i1), .val (.int i2)] [(.ref (n0 + ob0))])) _
      refine st29 _ ?_
      show Steps p.tables e below (T29.setTop (mkF m 85 #[.val (.ref (n0 + ob0)), .val (.int i1), .val (.int i2)] [(.ref (n0 + x28))])) _
      refine XS.iloadN X29.here hx rfl (hb hby d4_85) rfl ?_
      show Steps p.tables e below (T29.setTop (mkF m 86 #[.val (.ref (n0 + ob0)), .val (.int i1), .val (.int i2)] [(.int i1), (.ref (n0 + x28))])) _
      refine XS.iconst X29.here hx rfl (hb hby d4_86) ?_
      show Steps p.tables e below (T29.setTop (mkF m 87 #[.val (.ref (n0 + ob0)), .val (.int i1), .val (.int i2)] [(.int (-1 : Int32)), (.int i1), (.ref (n0 + x28))])) _
      refine st30 _ ?_
      exact k
    obtain rfl := own_inj1 hf
    exact Gl.outV X30 hx hlk hret (hb hby d4_88) ⟨rfl, N30, by rw [e30]; exact O30⟩ (by show _ ≤ 0; omega) (by show _ ≤ 0; omega)
  · rw [if_neg hc27] at hf
    obtain ⟨x31, hx31, hf⟩ := own_bind hf
    obtain ⟨T32, X32, e32, st32⟩ := getF X25 hx hZ hown (host := "") (Or.inl (hw _ (List.mem_of_getElem? (i := 14) rfl))) Via.refl e25 (O0.fld (gR_e hx31) rfl rfl) (g := (mkF m 65 #[.val (.ref (n0 + ob0)), .val (.int i1), .val (.int i2)] [(.ref (n0 + ob0))])) rfl rfl (hb hby d4_65)
    obtain ⟨x33, hx33, hf⟩ := own_bind hf
    obtain ⟨T34, X34, e34, st34⟩ := getF X32 hx hZ hown (host := "") (Or.inl (hw _ (List.mem_of_getElem? (i := 12) rfl))) Via.refl e32 (O0.fld (gR_e hx33) rfl rfl) (g := (mkF m 69 #[.val (.ref (n0 + ob0)), .val (.int i1), .val (.int i2)] [(.ref (n0 + ob0)), (.ref (n0 + x31))])) rfl rfl (hb hby d4_69)
    obtain ⟨x35, hx35, hf⟩ := own_bind hf
    obtain ⟨x36, hx36, hf⟩ := own_bind hf
    obtain ⟨T37, X37, e37, st37⟩ := getF X34 hx hZ hown (host := "") (Or.inl (hw _ (List.mem_of_getElem? (i := 14) rfl))) Via.refl e34 (O0.fld (gR_e hx36) rfl rfl) (g := (mkF m 75 #[.val (.ref (n0 + ob0)), .val (.int i1), .val (.int i2)] [(.ref (n0 + ob0)), (.int x35), (.ref (n0 + x31))])) rfl rfl (hb hby d4_75)
    obtain ⟨x38, hx38, hf⟩ := own_bind hf
    obtain ⟨D39, hq39, hf⟩ := own_bind hf
    obtain ⟨T39, h39, L39, X39, e39, O39, N39, st39⟩ := stIW X37 hx hZ e37 O0 N0 hq39 rfl (g := (mkF m 80 #[.val (.ref (n0 + ob0)), .val (.int i1), .val (.int i2)] [(.int x38), (.int x35), (.ref (n0 + x31))])) rfl rfl (hb hby d4_80)
    obtain ⟨x40, hx40, hf⟩ := own_bind hf
    obtain ⟨T41, X41, e41, st41⟩ := getF X39 hx hZ hown (host := "") (Or.inl (hw _ (List.mem_of_getElem? (i := 16) rfl))) Via.refl e39 (O39.fld (gR_e hx40) rfl rfl) (g := (mkF m 82 #[.val (.ref (n0 + ob0)), .val (.int i1), .val (.int i2)] [(.ref (n0 + ob0))])) rfl rfl (hb hby d4_82)
    obtain ⟨D42, hq42, hf⟩ := own_bind hf
    obtain ⟨T42, h42, L42, X42, e42, O42, N42, st42⟩ := stIW X41 hx hZ e41 O39 N39 hq42 rfl (g := (mkF m 87 #[.val (.ref (n0 + ob0)), .val (.int i1), .val (.int i2)] [(.int (-1 : Int32)), (.int i1), (.ref (n0 + x40))])) rfl rfl (hb hby d4_87)
    refine Gl.on (B := T42.setTop (mkF m 88 #[.val (.ref (n0 + ob0)), .val (.int i1), .val (.int i2)] [])) (fun t k => ?_) ?_
    · show Steps p.tables e below (T25.setTop (mkF m 61 #[.val (.ref (n0 + ob0)), .val (.int i1), .val (.int i2)] [(.int (-1 : Int32)), (.int x26)])) _
      refine XS.icmpNo X25.here hx rfl (hb hby d4_61) rfl (feq hc27).1 ?_
      show Steps p.tables e below (T25.setTop (mkF m 64 #[.val (.ref (n0 + ob0)), .val (.int i1), .val (.int i2)] [])) _
      refine XS.aloadN X25.here hx rfl (hb hby d4_64) rfl rfl ?_
      show Steps p.tables e below (T25.setTop (mkF m 65 #[.val (.ref (n0 + ob0)), .val (.int i1), .val (.int i2)] [(.ref (n0 + ob0))])) _
      refine st32 _ ?_
      show Steps p.tables e below (T32.setTop (mkF m 68 #[.val (.ref (n0 + ob0)), .val (.int i1), .val (.int i2)] [(.ref (n0 + x31))])) _
      refine XS.aloadN X32.here hx rfl (hb hby d4_68) rfl rfl ?_
      show Steps p.tables e below (T32.setTop (mkF m 69 #[.val (.ref (n0 + ob0)), .val (.int i1), .val (.int i2)] [(.ref (n0 + ob0)), (.ref (n0 + x31))])) _
      refine st34 _ ?_
      show Steps p.tables e below (T34.setTop (mkF m 72 #[.val (.ref (n0 + ob0)), .val (.int i1), .val (.int i2)] [(.ref (n0 + x33)), (.ref (n0 + x31))])) _
      refine XS.iloadN X34.here hx rfl (hb hby d4_72) rfl ?_
      show Steps p.tables e below (T34.setTop (mkF m 73 #[.val (.ref (n0 + ob0)), .val (.int i1), .val (.int i2)] [(.int i1), (.ref (n0 + x33)), (.ref (n0 + x31))])) _
      refine ldW X34 hx hZ e34 O0 hx35 rfl (g := (mkF m 73 #[.val (.ref (n0 + ob0)), .val (.int i1), .val (.int i2)] [(.int i1), (.ref (n0 + x33)), (.ref (n0 + x31))])) rfl rfl (hb hby d4_73) _ ?_
      show Steps p.tables e below (T34.setTop (mkF m 74 #[.val (.ref (n0 + ob0)), .val (.int i1), .val (.int i2)] [(.int x35), (.ref (n0 + x31))])) _
      refine XS.aloadN X34.here hx rfl (hb hby d4_74) rfl rfl ?_
      show Steps p.tables e below (T34.setTop (mkF m 75 #[.val (.ref (n0 + ob0)), .val (.int i1), .val (.int i2)] [(.ref (n0 + ob0)), (.int x35), (.ref (n0 + x31))])) _
      refine st37 _ ?_
      show Steps p.tables e below (T37.setTop (mkF m 78 #[.val (.ref (n0 + ob0)), .val (.int i1), .val (.int i2)] [(.ref (n0 + x36)), (.int x35), (.ref (n0 + x31))])) _
      refine XS.iloadN X37.here hx rfl (hb hby d4_78) rfl ?_
      show Steps p.tables e below (T37.setTop (mkF m 79 #[.val (.ref (n0 + ob0)), .val (.int i1), .val (.int i2)] [(.int i1), (.ref (n0 + x36)), (.int x35), (.ref (n0 + x31))])) _
      refine ldW X37 hx hZ e37 O0 hx38 rfl (g := (mkF m 79 #[.val (.ref (n0 + ob0)), .val (.int i1), .val (.int i2)] [(.int i1), (.ref (n0 + x36)), (.int x35), (.ref (n0 + x31))])) rfl rfl (hb hby d4_79) _ ?_
      show Steps p.tables e below (T37.setTop (mkF m 80 #[.val (.ref (n0 + ob0)), .val (.int i1), .val (.int i2)] [(.int x38), (.int x35), (.ref (n0 + x31))])) _
      refine st39 _ ?_
      show Steps p.tables e below (T39.setTop (mkF m 81 #[.val (.ref (n0 + ob0)), .val (.int i1), .val (.int i2)] [])) _
      refine XS.aloadN X39.here hx rfl (hb hby d4_81) rfl rfl ?_
      show Steps p.tables e below (T39.setTop (mkF m 82 #[.val (.ref (n0 + ob0)), .val (.int i1), .val (.int i2)] [(.ref (n0 + ob0))])) _
      refine st41 _ ?_
      show Steps p.tables e below (T41.setTop (mkF m 85 #[.val (.ref (n0 + ob0)), .val (.int i1), .val (.int i2)] [(.ref (n0 + x40))])) _
      refine XS.iloadN X41.here hx rfl (hb hby d4_85) rfl ?_
      show Steps p.tables e below (T41.setTop (mkF m 86 #[.val (.ref (n0 + ob0)), .val (.int i1), .val (.int i2)] [(.int i1), (.ref (n0 + x40))])) _
      refine XS.iconst X41.here hx rfl (hb hby d4_86) ?_
      show Steps p.tables e below (T41.setTop (mkF m 87 #[.val (.ref (n0 + ob0)), .val (.int i1), .val (.int i2)] [(.int (-1 : Int32)), (.int i1), (.ref (n0 + x40))])) _
      refine st42 _ ?_
      exact k
    obtain rfl := own_inj1 hf
    exact Gl.outV X42 hx hlk hret (hb hby d4_88) ⟨rfl, N42, by rw [e42]; exact O42⟩ (by show _ ≤ 0; omega) (by show _ ≤ 0; omega)
def f4 (D : Hp) (ob0 : Nat) (i1 : Int32) : Option (Hp) :=
  (gR D ob0 1 3).bind fun x1 =>
  (rI D x1 0 i1).bind fun x3 =>
  if x3 = (-1 : Int32) then (some D) else ((gR D ob0 1 2).bind fun x5 =>
  (rI D x5 0 i1).bind fun x7 =>
  if x7 = (-1 : Int32) then ((gR D ob0 1 0).bind fun x9 =>
  (gR D ob0 1 1).bind fun x11 =>
  (rI D x11 0 i1).bind fun x13 =>
  (wV D x9 0 x3 (.int x13)).bind fun D14 =>
  b4_54 D14 ob0 i1) else ((gR D ob0 1 1).bind fun x15 =>
  (gR D ob0 1 2).bind fun x17 =>
  (rI D x17 0 i1).bind fun x19 =>
  (gR D ob0 1 1).bind fun x20 =>
  (rI D x20 0 i1).bind fun x22 =>
  (wV D x15 0 x19 (.int x22)).bind fun D23 =>
  b4_54 D23 ob0 i1))
theorem ef_4 (m : MethodId) (n0 : Nat) (ob0 : Nat) (i1 : Int32) : entryFrame m #[(.ref (n0 + ob0)), (.int i1)] 3 = mkF m 0 #[.val (.ref (n0 + ob0)), .val (.int i1), .unset] [] := by first | (simp [entryFrame, mkF, argsToLocals, Value.category]; done) | rfl
set_option maxRecDepth 65536 in
set_option maxHeartbeats 40000000 in
theorem ct4 {l : Launch} {Z : State} {a0 : Array Value} (hw : ∀ d ∈ tables_1, d.before a0 Z = true) {n0 : Nat} {D D' : Hp} {ob0 : Nat} {i1 : Int32} (hf : f4 D ob0 i1 = some D') :
    Ct Kt1 l Z (⟨"com/example/planar_drawing_kit/planardrawingkit/inspect/CrossingQueue", "remove", "(I)V"⟩ : MethodName) (.code (⟨"com/example/planar_drawing_kit/planardrawingkit/inspect/CrossingQueue", "remove", "(I)V"⟩ : MethodName) prog_93_method_3_code 3 none) ({ frames := 0, cells := 0, slots := 0, locals := 0 } : Room) n0 D #[(.ref (n0 + ob0)), (.int i1)] none D' := by
  refine Ct.of (plainFor_of_name pn_4) ?_
  intro p e s m below meth c T0 h0 hC X0 e0 O0
  obtain ⟨hx, hZ, hby, hml, hown, hnm, hret, hlk⟩ := id hC
  have hml : c.maxLocals = 3 := hml
  have hown : s.vm.findClass "com/example/planar_drawing_kit/planardrawingkit/inspect/CrossingQueue" = some m.cls := hown
  have hnm : meth.name = "remove" := hnm
  have N0 := Fr.nil n0
  refine Gl.on (fun t k => castTop (ef_4 m n0 ob0 i1) k) ?_
  rw [f4] at hf
  obtain ⟨x1, hx1, hf⟩ := own_bind hf
  obtain ⟨T2, X2, e2, st2⟩ := getF X0 hx hZ hown (host := "") (Or.inl (hw _ (List.mem_of_getElem? (i := 16) rfl))) Via.refl e0 (O0.fld (gR_e hx1) rfl rfl) (g := (mkF m 1 #[.val (.ref (n0 + ob0)), .val (.int i1), .unset] [(.ref (n0 + ob0))])) rfl rfl (hb hby d4_1)
  obtain ⟨x3, hx3, hf⟩ := own_bind hf
  refine Gl.on (B := T2.setTop (mkF m 9 #[.val (.ref (n0 + ob0)), .val (.int i1), .val (.int x3)] [(.int (-1 : Int32)), (.int x3)])) (fun t k => ?_) ?_
  · show Steps p.tables e below (T0.setTop (mkF m 0 #[.val (.ref (n0 + ob0)), .val (.int i1), .unset] [])) _
    refine XS.aloadN X0.here hx rfl (hb hby d4_0) rfl rfl ?_
    show Steps p.tables e below (T0.setTop (mkF m 1 #[.val (.ref (n0 + ob0)), .val (.int i1), .unset] [(.ref (n0 + ob0))])) _
    refine st2 _ ?_
    show Steps p.tables e below (T2.setTop (mkF m 4 #[.val (.ref (n0 + ob0)), .val (.int i1), .unset] [(.ref (n0 + x1))])) _
    refine XS.iloadN X2.here hx rfl (hb hby d4_4) rfl ?_
    show Steps p.tables e below (T2.setTop (mkF m 5 #[.val (.ref (n0 + ob0)), .val (.int i1), .unset] [(.int i1), (.ref (n0 + x1))])) _
    refine ldW X2 hx hZ e2 O0 hx3 rfl (g := (mkF m 5 #[.val (.ref (n0 + ob0)), .val (.int i1), .unset] [(.int i1), (.ref (n0 + x1))])) rfl rfl (hb hby d4_5) _ ?_
    show Steps p.tables e below (T2.setTop (mkF m 6 #[.val (.ref (n0 + ob0)), .val (.int i1), .unset] [(.int x3)])) _
    refine XS.istoreN X2.here hx rfl (hb hby d4_6) rfl (l' := #[.val (.ref (n0 + ob0)), .val (.int i1), .val (.int x3)]) rfl ?_
    show Steps p.tables e below (T2.setTop (mkF m 7 #[.val (.ref (n0 + ob0)), .val (.int i1), .val (.int x3)] [])) _
    refine XS.iloadN X2.here hx rfl (hb hby d4_7) rfl ?_
    show Steps p.tables e below (T2.setTop (mkF m 8 #[.val (.ref (n0 + ob0)), .val (.int i1), .val (.int x3)] [(.int x3)])) _
    refine XS.iconst X2.here hx rfl (hb hby d4_8) ?_
    exact k
  by_cases hc4 : x3 = (-1 : Int32)
  · rw [if_pos hc4] at hf
    refine Gl.on (B := T2.setTop (mkF m 88 #[.val (.ref (n0 + ob0)), .val (.int i1), .val (.int x3)] [])) (fun t k => ?_) ?_
    · show Steps p.tables e below (T2.setTop (mkF m 9 #[.val (.ref (n0 + ob0)), .val (.int i1), .val (.int x3)] [(.int (-1 : Int32)), (.int x3)])) _
      refine XS.icmpYes X2.here hx rfl (pc0 := 9) (pc' := 88) rfl (hb hby d4_9) rfl (teq hc4).1 (by decide) (by decide) ?_
      exact k
    obtain rfl := own_inj1 hf
    exact Gl.outV X2 hx hlk hret (hb hby d4_88) ⟨rfl, N0, by rw [e2]; exact O0⟩ (by show _ ≤ 0; omega) (by show _ ≤ 0; omega)
  · rw [if_neg hc4] at hf
    obtain ⟨x5, hx5, hf⟩ := own_bind hf
    obtain ⟨T6, X6, e6, st6⟩ := getF X2 hx hZ hown (host := "") (Or.inl (hw _ (List.mem_of_getElem? (i := 14) rfl))) Via.refl e2 (O0.fld (gR_e hx5) rfl rfl) (g := (mkF m 13 #[.val (.ref (n0 + ob0)), .val (.int i1), .val (.int x3)] [(.ref (n0 + ob0))])) rfl rfl (hb hby d4_13)
    obtain ⟨x7, hx7, hf⟩ := own_bind hf
    refine Gl.on (B := T6.setTop (mkF m 19 #[.val (.ref (n0 + ob0)), .val (.int i1), .val (.int x3)] [(.int (-1 : Int32)), (.int x7)])) (fun t k => ?_) ?_
    · show Steps p.tables e below (T2.setTop (mkF m 9 #[.val (.ref (n0 + ob0)), .val (.int i1), .val (.int x3)] [(.int (-1 : Int32)), (.int x3)])) _
      refine XS.icmpNo X2.here hx rfl (hb hby d4_9) rfl (feq hc4).1 ?_
      show Steps p.tables e below (T2.setTop (mkF m 12 #[.val (.ref (n0 + ob0)), .val (.int i1), .val (.int x3)] [])) _
      refine XS.aloadN X2.here hx rfl (hb hby d4_12) rfl rfl ?_
      show Steps p.tables e below (T2.setTop (mkF m 13 #[.val (.ref (n0 + ob0)), .val (.int i1), .val (.int x3)] [(.ref (n0 + ob0))])) _
      refine st6 _ ?_
      show Steps p.tables e below (T6.setTop (mkF m 16 #[.val (.ref (n0 + ob0)), .val (.int i1), .val (.int x3)] [(.ref (n0 + x5))])) _
      refine XS.iloadN X6.here hx rfl (hb hby d4_16) rfl ?_
      show Steps p.tables e below (T6.setTop (mkF m 17 #[.val (.ref (n0 + ob0)), .val (.int i1), .val (.int x3)] [(.int i1), (.ref (n0 + x5))])) _
      refine ldW X6 hx hZ e6 O0 hx7 rfl (g := (mkF m 17 #[.val (.ref (n0 + ob0)), .val (.int i1), .val (.int x3)] [(.int i1), (.ref (n0 + x5))])) rfl rfl (hb hby d4_17) _ ?_
      show Steps p.tables e below (T6.setTop (mkF m 18 #[.val (.ref (n0 + ob0)), .val (.int i1), .val (.int x3)] [(.int x7)])) _
      refine XS.iconst X6.here hx rfl (hb hby d4_18) ?_
      exact k
    by_cases hc8 : x7 = (-1 : Int32)
    · rw [if_pos hc8] at hf
      obtain ⟨x9, hx9, hf⟩ := own_bind hf
      obtain ⟨T10, X10, e10, st10⟩ := getF X6 hx hZ hown (host := "") (Or.inl (hw _ (List.mem_of_getElem? (i := 10) rfl))) Via.refl e6 (O0.fld (gR_e hx9) rfl rfl) (g := (mkF m 23 #[.val (.ref (n0 + ob0)), .val (.int i1), .val (.int x3)] [(.ref (n0 + ob0))])) rfl rfl (hb hby d4_23)
      obtain ⟨x11, hx11, hf⟩ := own_bind hf
      obtain ⟨T12, X12, e12, st12⟩ := getF X10 hx hZ hown (host := "") (Or.inl (hw _ (List.mem_of_getElem? (i := 12) rfl))) Via.refl e10 (O0.fld (gR_e hx11) rfl rfl) (g := (mkF m 28 #[.val (.ref (n0 + ob0)), .val (.int i1), .val (.int x3)] [(.ref (n0 + ob0)), (.int x3), (.ref (n0 + x9))])) rfl rfl (hb hby d4_28)
      obtain ⟨x13, hx13, hf⟩ := own_bind hf
      obtain ⟨D14, hq14, hf⟩ := own_bind hf
      obtain ⟨T14, h14, L14, X14, e14, O14, N14, st14⟩ := stIW X12 hx hZ e12 O0 N0 hq14 rfl (g := (mkF m 33 #[.val (.ref (n0 + ob0)), .val (.int i1), .val (.int x3)] [(.int x13), (.int x3), (.ref (n0 + x9))])) rfl rfl (hb hby d4_33)
      refine Gl.on (B := T14.setTop (mkF m 54 #[.val (.ref (n0 + ob0)), .val (.int i1), .val (.int x3)] [])) (fun t k => ?_) ?_
      · show Steps p.tables e below (T6.setTop (mkF m 19 #[.val (.ref (n0 + ob0)), .val (.int i1), .val (.int x3)] [(.int (-1 : Int32)), (.int x7)])) _
        refine XS.icmpNo X6.here hx rfl (hb hby d4_19) rfl (teq hc8).2 ?_
        show Steps p.tables e below (T6.setTop (mkF m 22 #[.val (.ref (n0 + ob0)), .val (.int i1), .val (.int x3)] [])) _
        refine XS.aloadN X6.here hx rfl (hb hby d4_22) rfl rfl ?_
        show Steps p.tables e below (T6.setTop (mkF m 23 #[.val (.ref (n0 + ob0)), .val (.int i1), .val (.int x3)] [(.ref (n0 + ob0))])) _
        refine st10 _ ?_
        show Steps p.tables e below (T10.setTop (mkF m 26 #[.val (.ref (n0 + ob0)), .val (.int i1), .val (.int x3)] [(.ref (n0 + x9))])) _
        refine XS.iloadN X10.here hx rfl (hb hby d4_26) rfl ?_
        show Steps p.tables e below (T10.setTop (mkF m 27 #[.val (.ref (n0 + ob0)), .val (.int i1), .val (.int x3)] [(.int x3), (.ref (n0 + x9))])) _
        refine XS.aloadN X10.here hx rfl (hb hby d4_27) rfl rfl ?_
        show Steps p.tables e below (T10.setTop (mkF m 28 #[.val (.ref (n0 + ob0)), .val (.int i1), .val (.int x3)] [(.ref (n0 + ob0)), (.int x3), (.ref (n0 + x9))])) _
        refine st12 _ ?_
        show Steps p.tables e below (T12.setTop (mkF m 31 #[.val (.ref (n0 + ob0)), .val (.int i1), .val (.int x3)] [(.ref (n0 + x11)), (.int x3), (.ref (n0 + x9))])) _
        refine XS.iloadN X12.here hx rfl (hb hby d4_31) rfl ?_
        show Steps p.tables e below (T12.setTop (mkF m 32 #[.val (.ref (n0 + ob0)), .val (.int i1), .val (.int x3)] [(.int i1), (.ref (n0 + x11)), (.int x3), (.ref (n0 + x9))])) _
        refine ldW X12 hx hZ e12 O0 hx13 rfl (g := (mkF m 32 #[.val (.ref (n0 + ob0)), .val (.int i1), .val (.int x3)] [(.int i1), (.ref (n0 + x11)), (.int x3), (.ref (n0 + x9))])) rfl rfl (hb hby d4_32) _ ?_
        show Steps p.tables e below (T12.setTop (mkF m 33 #[.val (.ref (n0 + ob0)), .val (.int i1), .val (.int x3)] [(.int x13), (.int x3), (.ref (n0 + x9))])) _
        refine st14 _ ?_
        show Steps p.tables e below (T14.setTop (mkF m 34 #[.val (.ref (n0 + ob0)), .val (.int i1), .val (.int x3)] [])) _
        refine XS.goto X14.here hx rfl (pc0 := 34) (pc' := 54) rfl (hb hby d4_34) (by decide) (by decide) ?_
        exact k
      exact bt4_54 hw hC X14 e14 O14 N14 (by omega) (by omega) hf
    · rw [if_neg hc8] at hf
      obtain ⟨x15, hx15, hf⟩ := own_bind hf
      obtain ⟨T16, X16, e16, st16⟩ := getF X6 hx hZ hown (host := "") (Or.inl (hw _ (List.mem_of_getElem? (i := 12) rfl))) Via.refl e6 (O0.fld (gR_e hx15) rfl rfl) (g := (mkF m 38 #[.val (.ref (n0 + ob0)), .val (.int i1), .val (.int x3)] [(.ref (n0 + ob0))])) rfl rfl (hb hby d4_38)
      obtain ⟨x17, hx17, hf⟩ := own_bind hf
      obtain ⟨T18, X18, e18, st18⟩ := getF X16 hx hZ hown (host := "") (Or.inl (hw _ (List.mem_of_getElem? (i := 14) rfl))) Via.refl e16 (O0.fld (gR_e hx17) rfl rfl) (g := (mkF m 42 #[.val (.ref (n0 + ob0)), .val (.int i1), .val (.int x3)] [(.ref (n0 + ob0)), (.ref (n0 + x15))])) rfl rfl (hb hby d4_42)
      obtain ⟨x19, hx19, hf⟩ := own_bind hf
      obtain ⟨x20, hx20, hf⟩ := own_bind hf
      obtain ⟨T21, X21, e21, st21⟩ := getF X18 hx hZ hown (host := "") (Or.inl (hw _ (List.mem_of_getElem? (i := 12) rfl))) Via.refl e18 (O0.fld (gR_e hx20) rfl rfl) (g := (mkF m 48 #[.val (.ref (n0 + ob0)), .val (.int i1), .val (.int x3)] [(.ref (n0 + ob0)), (.int x19), (.ref (n0 + x15))])) rfl rfl (hb hby d4_48)
      obtain ⟨x22, hx22, hf⟩ := own_bind hf
      obtain ⟨D23, hq23, hf⟩ := own_bind hf
      obtain ⟨T23, h23, L23, X23, e23, O23, N23, st23⟩ := stIW X21 hx hZ e21 O0 N0 hq23 rfl (g := (mkF m 53 #[.val (.ref (n0 + ob0)), .val (.int i1), .val (.int x3)] [(.int x22), (.int x19), (.ref (n0 + x15))])) rfl rfl (hb hby d4_53)
      refine Gl.on (B := T23.setTop (mkF m 54 #[.val (.ref (n0 + ob0)), .val (.int i1), .val (.int x3)] [])) (fun t k => ?_) ?_
      · show Steps p.tables e below (T6.setTop (mkF m 19 #[.val (.ref (n0 + ob0)), .val (.int i1), .val (.int x3)] [(.int (-1 : Int32)), (.int x7)])) _
        refine XS.icmpYes X6.here hx rfl (pc0 := 19) (pc' := 37) rfl (hb hby d4_19) rfl (feq hc8).2 (by decide) (by decide) ?_
        show Steps p.tables e below (T6.setTop (mkF m 37 #[.val (.ref (n0 + ob0)), .val (.int i1), .val (.int x3)] [])) _
        refine XS.aloadN X6.here hx rfl (hb hby d4_37) rfl rfl ?_
        show Steps p.tables e below (T6.setTop (mkF m 38 #[.val (.ref (n0 + ob0)), .val (.int i1), .val (.int x3)] [(.ref (n0 + ob0))])) _
        refine st16 _ ?_
        show Steps p.tables e below (T16.setTop (mkF m 41 #[.val (.ref (n0 + ob0)), .val (.int i1), .val (.int x3)] [(.ref (n0 + x15))])) _
        refine XS.aloadN X16.here hx rfl (hb hby d4_41) rfl rfl ?_
        show Steps p.tables e below (T16.setTop (mkF m 42 #[.val (.ref (n0 + ob0)), .val (.int i1), .val (.int x3)] [(.ref (n0 + ob0)), (.ref (n0 + x15))])) _
        refine st18 _ ?_
        show Steps p.tables e below (T18.setTop (mkF m 45 #[.val (.ref (n0 + ob0)), .val (.int i1), .val (.int x3)] [(.ref (n0 + x17)), (.ref (n0 + x15))])) _
        refine XS.iloadN X18.here hx rfl (hb hby d4_45) rfl ?_
        show Steps p.tables e below (T18.setTop (mkF m 46 #[.val (.ref (n0 + ob0)), .val (.int i1), .val (.int x3)] [(.int i1), (.ref (n0 + x17)), (.ref (n0 + x15))])) _
        refine ldW X18 hx hZ e18 O0 hx19 rfl (g := (mkF m 46 #[.val (.ref (n0 + ob0)), .val (.int i1), .val (.int x3)] [(.int i1), (.ref (n0 + x17)), (.ref (n0 + x15))])) rfl rfl (hb hby d4_46) _ ?_
        show Steps p.tables e below (T18.setTop (mkF m 47 #[.val (.ref (n0 + ob0)), .val (.int i1), .val (.int x3)] [(.int x19), (.ref (n0 + x15))])) _
        refine XS.aloadN X18.here hx rfl (hb hby d4_47) rfl rfl ?_
        show Steps p.tables e below (T18.setTop (mkF m 48 #[.val (.ref (n0 + ob0)), .val (.int i1), .val (.int x3)] [(.ref (n0 + ob0)), (.int x19), (.ref (n0 + x15))])) _
        refine st21 _ ?_
        show Steps p.tables e below (T21.setTop (mkF m 51 #[.val (.ref (n0 + ob0)), .val (.int i1), .val (.int x3)] [(.ref (n0 + x20)), (.int x19), (.ref (n0 + x15))])) _
        refine XS.iloadN X21.here hx rfl (hb hby d4_51) rfl ?_
        show Steps p.tables e below (T21.setTop (mkF m 52 #[.val (.ref (n0 + ob0)), .val (.int i1), .val (.int x3)] [(.int i1), (.ref (n0 + x20)), (.int x19), (.ref (n0 + x15))])) _
        refine ldW X21 hx hZ e21 O0 hx22 rfl (g := (mkF m 52 #[.val (.ref (n0 + ob0)), .val (.int i1), .val (.int x3)] [(.int i1), (.ref (n0 + x20)), (.int x19), (.ref (n0 + x15))])) rfl rfl (hb hby d4_52) _ ?_
        show Steps p.tables e below (T21.setTop (mkF m 53 #[.val (.ref (n0 + ob0)), .val (.int i1), .val (.int x3)] [(.int x22), (.int x19), (.ref (n0 + x15))])) _
        refine st23 _ ?_
        exact k
      exact bt4_54 hw hC X23 e23 O23 N23 (by omega) (by omega) hf
theorem d6_0 : decode method_3_code 0 = .ok (.iload_n 0, 1) := by decide +kernel
theorem d6_1 : decode method_3_code 1 = .ok (.iconst 2, 1) := by decide +kernel
theorem d6_2 : decode method_3_code 2 = .ok (.iload_n 3, 1) := by decide +kernel
theorem d6_3 : decode method_3_code 3 = .ok (.imul, 1) := by decide +kernel
theorem d6_4 : decode method_3_code 4 = .ok (.iushr, 1) := by decide +kernel
theorem d6_5 : decode method_3_code 5 = .ok (.iconst 1, 1) := by decide +kernel
theorem d6_6 : decode method_3_code 6 = .ok (.iand, 1) := by decide +kernel
theorem d6_7 : decode method_3_code 7 = .ok (.ifCond .eq 7, 3) := by decide +kernel
theorem d6_10 : decode method_3_code 10 = .ok (.iconst 1, 1) := by decide +kernel
theorem d6_11 : decode method_3_code 11 = .ok (.goto 4, 3) := by decide +kernel
theorem d6_14 : decode method_3_code 14 = .ok (.iconst 0, 1) := by decide +kernel
theorem d6_15 : decode method_3_code 15 = .ok (.istore 5, 2) := by decide +kernel
theorem d6_17 : decode method_3_code 17 = .ok (.iload_n 0, 1) := by decide +kernel
theorem d6_18 : decode method_3_code 18 = .ok (.iconst 2, 1) := by decide +kernel
theorem d6_19 : decode method_3_code 19 = .ok (.iload_n 3, 1) := by decide +kernel
theorem d6_20 : decode method_3_code 20 = .ok (.imul, 1) := by decide +kernel
theorem d6_21 : decode method_3_code 21 = .ok (.iconst 1, 1) := by decide +kernel
theorem d6_22 : decode method_3_code 22 = .ok (.iadd, 1) := by decide +kernel
theorem d6_23 : decode method_3_code 23 = .ok (.iushr, 1) := by decide +kernel
theorem d6_24 : decode method_3_code 24 = .ok (.iconst 1, 1) := by decide +kernel
theorem d6_25 : decode method_3_code 25 = .ok (.iand, 1) := by decide +kernel
theorem d6_26 : decode method_3_code 26 = .ok (.istore 6, 2) := by decide +kernel
theorem d6_28 : decode method_3_code 28 = .ok (.iload 5, 2) := by decide +kernel
theorem d6_30 : decode method_3_code 30 = .ok (.ifCond .eq 24, 3) := by decide +kernel
theorem d6_33 : decode method_3_code 33 = .ok (.iload 6, 2) := by decide +kernel
theorem d6_35 : decode method_3_code 35 = .ok (.iload 4, 2) := by decide +kernel
theorem d6_37 : decode method_3_code 37 = .ok (.if_icmp .ne 17, 3) := by decide +kernel
theorem d6_40 : decode method_3_code 40 = .ok (.iload_n 3, 1) := by decide +kernel
theorem d6_41 : decode method_3_code 41 = .ok (.iload_n 1, 1) := by decide +kernel
theorem d6_42 : decode method_3_code 42 = .ok (.if_icmp .eq 12, 3) := by decide +kernel
theorem d6_45 : decode method_3_code 45 = .ok (.iload_n 3, 1) := by decide +kernel
theorem d6_46 : decode method_3_code 46 = .ok (.iload_n 2, 1) := by decide +kernel
theorem d6_47 : decode method_3_code 47 = .ok (.if_icmp .eq 7, 3) := by decide +kernel
theorem d6_50 : decode method_3_code 50 = .ok (.iconst 1, 1) := by decide +kernel
theorem d6_51 : decode method_3_code 51 = .ok (.goto 4, 3) := by decide +kernel
theorem d6_54 : decode method_3_code 54 = .ok (.iconst 0, 1) := by decide +kernel
theorem d6_55 : decode method_3_code 55 = .ok (.ireturn, 1) := by decide +kernel
theorem pn_6 : plainName "com/example/planar_drawing_kit/planardrawingkit/inspect/CrossingQueueRemovePinLaw" = true := by first | (simp [plainName, overriddenIn]; done) | decide +kernel
def b6_15 (D : Hp) (i0 : Int32) (i1 : Int32) (i2 : Int32) (i3 : Int32) (i4 : Int32) (t0 : Int32) : Option (Int32 × Hp) :=
  own_let (((i0.toUInt32 >>> ((((2 : Int32) * i3) + (1 : Int32)) &&& 31).toUInt32).toInt32) &&& (1 : Int32)) fun v2 =>
  if t0 = (0 : Int32) then (some ((0 : Int32), D)) else (if v2 = i4 then (if i3 = i1 then (some ((0 : Int32), D)) else (if i3 = i2 then (some ((0 : Int32), D)) else (some ((1 : Int32), D)))) else (some ((0 : Int32), D)))
set_option maxRecDepth 65536 in
set_option maxHeartbeats 40000000 in
theorem bt6_15 {p : Program} {l : Launch} {e : Env} {s : State} {m : MethodId} {args : Array Value} {below : List Frame} {meth : Method} {c : Code} {Z : State} {a0 : Array Value} {n0 : Nat} {D' : Hp} {r : Int32} {T0 : State} {locs : List Loc} {cells slots : Nat} {h0 : Heap} {D : Hp} {i0 : Int32} {i1 : Int32} {i2 : Int32} {i3 : Int32} {i4 : Int32} {t0 : Int32} (hw : ∀ d ∈ tables_1, d.before a0 Z = true) (hC : Cx p s m meth c Z method_3_code 7 (some .boolean) "com/example/planar_drawing_kit/planardrawingkit/inspect/CrossingQueueRemovePinLaw" "stays") (X0 : Stand p l e ({ frames := 0, cells := 0, slots := 0, locals := 0 } : Room) s m args below meth c T0 locs cells slots) (e0 : T0.heap = h0) (O0 : Ow Kt1 Z h0 n0 D) (N0 : Fr n0 locs) (hcc : cells ≤ 0) (hss : slots ≤ 0) (hf : b6_15 D i0 i1 i2 i3 i4 t0 = some (r, D')) : Gl p e below s 0 0 (Qw Kt1 Z n0 (some (.int r)) D') (T0.setTop (mkF m 15 #[.val (.int i0), .val (.int i1), .val (.int i2), .val (.int i3), .val (.int i4), .unset, .unset] [(.int t0)])) := by
  obtain ⟨hx, hZ, hby, hml, hown, hnm, hret, hlk⟩ := id hC
  have hml : c.maxLocals = 7 := hml
  rw [b6_15] at hf
  obtain ⟨v2, hv2, hf⟩ := own_letE hf
  refine Gl.on (B := T0.setTop (mkF m 30 #[.val (.int i0), .val (.int i1), .val (.int i2), .val (.int i3), .val (.int i4), .val (.int t0), .val (.int v2)] [(.int t0)])) (fun t k => ?_) ?_
  · show Steps p.tables e below (T0.setTop (mkF m 15 #[.val (.int i0), .val (.int i1), .val (.int i2), .val (.int i3), .val (.int i4), .unset, .unset] [(.int t0)])) _
    refine XS.istore X0.here hx rfl (hb hby d6_15) rfl (l' := #[.val (.int i0), .val (.int i1), .val (.int i2), .val (.int i3), .val (.int i4), .val (.int t0), .unset]) rfl ?_
    show Steps p.tables e below (T0.setTop (mkF m 17 #[.val (.int i0), .val (.int i1), .val (.int i2), .val (.int i3), .val (.int i4), .val (.int t0), .unset] [])) _
    refine XS.iloadN X0.here hx rfl (hb hby d6_17) rfl ?_
    show Steps p.tables e below (T0.setTop (mkF m 18 #[.val (.int i0), .val (.int i1), .val (.int i2), .val (.int i3), .val (.int i4), .val (.int t0), .unset] [(.int i0)])) _
    refine XS.iconst X0.here hx rfl (hb hby d6_18) ?_
    show Steps p.tables e below (T0.setTop (mkF m 19 #[.val (.int i0), .val (.int i1), .val (.int i2), .val (.int i3), .val (.int i4), .val (.int t0), .unset] [(.int (2 : Int32)), (.int i0)])) _
    refine XS.iloadN X0.here hx rfl (hb hby d6_19) rfl ?_
    show Steps p.tables e below (T0.setTop (mkF m 20 #[.val (.int i0), .val (.int i1), .val (.int i2), .val (.int i3), .val (.int i4), .val (.int t0), .unset] [(.int i3), (.int (2 : Int32)), (.int i0)])) _
    refine XS.imul X0.here hx rfl (hb hby d6_20) rfl ?_
    show Steps p.tables e below (T0.setTop (mkF m 21 #[.val (.int i0), .val (.int i1), .val (.int i2), .val (.int i3), .val (.int i4), .val (.int t0), .unset] [(.int ((2 : Int32) * i3)), (.int i0)])) _
    refine XS.iconst X0.here hx rfl (hb hby d6_21) ?_
    show Steps p.tables e below (T0.setTop (mkF m 22 #[.val (.int i0), .val (.int i1), .val (.int i2), .val (.int i3), .val (.int i4), .val (.int t0), .unset] [(.int (1 : Int32)), (.int ((2 : Int32) * i3)), (.int i0)])) _
    refine XS.iadd X0.here hx rfl (hb hby d6_22) rfl ?_
    show Steps p.tables e below (T0.setTop (mkF m 23 #[.val (.int i0), .val (.int i1), .val (.int i2), .val (.int i3), .val (.int i4), .val (.int t0), .unset] [(.int (((2 : Int32) * i3) + (1 : Int32))), (.int i0)])) _
    refine XS.iushr X0.here hx rfl (hb hby d6_23) rfl ?_
    show Steps p.tables e below (T0.setTop (mkF m 24 #[.val (.int i0), .val (.int i1), .val (.int i2), .val (.int i3), .val (.int i4), .val (.int t0), .unset] [(.int ((i0.toUInt32 >>> ((((2 : Int32) * i3) + (1 : Int32)) &&& 31).toUInt32).toInt32))])) _
    refine XS.iconst X0.here hx rfl (hb hby d6_24) ?_
    show Steps p.tables e below (T0.setTop (mkF m 25 #[.val (.int i0), .val (.int i1), .val (.int i2), .val (.int i3), .val (.int i4), .val (.int t0), .unset] [(.int (1 : Int32)), (.int ((i0.toUInt32 >>> ((((2 : Int32) * i3) + (1 : Int32)) &&& 31).toUInt32).toInt32))])) _
    refine XS.iand X0.here hx rfl (hb hby d6_25) rfl ?_
    show Steps p.tables e below (T0.setTop (mkF m 26 #[.val (.int i0), .val (.int i1), .val (.int i2), .val (.int i3), .val (.int i4), .val (.int t0), .unset] [(.int (((i0.toUInt32 >>> ((((2 : Int32) * i3) + (1 : Int32)) &&& 31).toUInt32).toInt32) &&& (1 : Int32)))])) _
    refine own_to (congrArg (fun z => T0.setTop (mkF m 26 #[.val (.int i0), .val (.int i1), .val (.int i2), .val (.int i3), .val (.int i4), .val (.int t0), .unset] [(.int z)])) hv2) ?_
    show Steps p.tables e below (T0.setTop (mkF m 26 #[.val (.int i0), .val (.int i1), .val (.int i2), .val (.int i3), .val (.int i4), .val (.int t0), .unset] [(.int v2)])) _
    refine XS.istore X0.here hx rfl (hb hby d6_26) rfl (l' := #[.val (.int i0), .val (.int i1), .val (.int i2), .val (.int i3), .val (.int i4), .val (.int t0), .val (.int v2)]) rfl ?_
    show Steps p.tables e below (T0.setTop (mkF m 28 #[.val (.int i0), .val (.int i1), .val (.int i2), .val (.int i3), .val (.int i4), .val (.int t0), .val (.int v2)] [])) _
    refine XS.iload X0.here hx rfl (hb hby d6_28) rfl ?_
    exact k
  by_cases hc3 : t0 = (0 : Int32)
  · rw [if_pos hc3] at hf
    refine Gl.on (B := T0.setTop (mkF m 55 #[.val (.int i0), .val (.int i1), .val (.int i2), .val (.int i3), .val (.int i4), .val (.int t0), .val (.int v2)] [(.int (0 : Int32))])) (fun t k => ?_) ?_
    · show Steps p.tables e below (T0.setTop (mkF m 30 #[.val (.int i0), .val (.int i1), .val (.int i2), .val (.int i3), .val (.int i4), .val (.int t0), .val (.int v2)] [(.int t0)])) _
      refine XS.ifYes X0.here hx rfl (pc0 := 30) (pc' := 54) rfl (hb hby d6_30) rfl ((if0 _ _).trans (teq hc3).1) (by decide) (by decide) ?_
      show Steps p.tables e below (T0.setTop (mkF m 54 #[.val (.int i0), .val (.int i1), .val (.int i2), .val (.int i3), .val (.int i4), .val (.int t0), .val (.int v2)] [])) _
      refine XS.iconst X0.here hx rfl (hb hby d6_54) ?_
      exact k
    obtain ⟨rfl, rfl⟩ := own_inj hf
    exact Gl.outN X0 hx hlk (t := .boolean) hret (by simp) (hb hby d6_55) ⟨rfl, N0, by rw [e0]; exact O0⟩ (by show _ ≤ 0; omega) (by show _ ≤ 0; omega)
  · rw [if_neg hc3] at hf
    refine Gl.on (B := T0.setTop (mkF m 37 #[.val (.int i0), .val (.int i1), .val (.int i2), .val (.int i3), .val (.int i4), .val (.int t0), .val (.int v2)] [(.int i4), (.int v2)])) (fun t k => ?_) ?_
    · show Steps p.tables e below (T0.setTop (mkF m 30 #[.val (.int i0), .val (.int i1), .val (.int i2), .val (.int i3), .val (.int i4), .val (.int t0), .val (.int v2)] [(.int t0)])) _
      refine XS.ifNo X0.here hx rfl (hb hby d6_30) rfl ((if0 _ _).trans (feq hc3).1) ?_
      show Steps p.tables e below (T0.setTop (mkF m 33 #[.val (.int i0), .val (.int i1), .val (.int i2), .val (.int i3), .val (.int i4), .val (.int t0), .val (.int v2)] [])) _
      refine XS.iload X0.here hx rfl (hb hby d6_33) rfl ?_
      show Steps p.tables e below (T0.setTop (mkF m 35 #[.val (.int i0), .val (.int i1), .val (.int i2), .val (.int i3), .val (.int i4), .val (.int t0), .val (.int v2)] [(.int v2)])) _
      refine XS.iload X0.here hx rfl (hb hby d6_35) rfl ?_
      exact k
    by_cases hc4 : v2 = i4
    · rw [if_pos hc4] at hf
      refine Gl.on (B := T0.setTop (mkF m 42 #[.val (.int i0), .val (.int i1), .val (.int i2), .val (.int i3), .val (.int i4), .val (.int t0), .val (.int v2)] [(.int i1), (.int i3)])) (fun t k => ?_) ?_
      · show Steps p.tables e below (T0.setTop (mkF m 37 #[.val (.int i0), .val (.int i1), .val (.int i2), .val (.int i3), .val (.int i4), .val (.int t0), .val (.int v2)] [(.int i4), (.int v2)])) _
        refine XS.icmpNo X0.here hx rfl (hb hby d6_37) rfl (teq hc4).2 ?_
        show Steps p.tables e below (T0.setTop (mkF m 40 #[.val (.int i0), .val (.int i1), .val (.int i2), .val (.int i3), .val (.int i4), .val (.int t0), .val (.int v2)] [])) _
        refine XS.iloadN X0.here hx rfl (hb hby d6_40) rfl ?_
        show Steps p.tables e below (T0.setTop (mkF m 41 #[.val (.int i0), .val (.int i1), .val (.int i2), .val (.int i3), .val (.int i4), .val (.int t0), .val (.int v2)] [(.int i3)])) _
        refine XS.iloadN X0.here hx rfl (hb hby d6_41) rfl ?_
        exact k
      by_cases hc5 : i3 = i1
      · rw [if_pos hc5] at hf
        refine Gl.on (B := T0.setTop (mkF m 55 #[.val (.int i0), .val (.int i1), .val (.int i2), .val (.int i3), .val (.int i4), .val (.int t0), .val (.int v2)] [(.int (0 : Int32))])) (fun t k => ?_) ?_
        · show Steps p.tables e below (T0.setTop (mkF m 42 #[.val (.int i0), .val (.int i1), .val (.int i2), .val (.int i3), .val (.int i4), .val (.int t0), .val (.int v2)] [(.int i1), (.int i3)])) _
          refine XS.icmpYes X0.here hx rfl (pc0 := 42) (pc' := 54) rfl (hb hby d6_42) rfl (teq hc5).1 (by decide) (by decide) ?_
          show Steps p.tables e below (T0.setTop (mkF m 54 #[.val (.int i0), .val (.int i1), .val (.int i2), .val (.int i3), .val (.int i4), .val (.int t0), .val (.int v2)] [])) _
          refine XS.iconst X0.here hx rfl (hb hby d6_54) ?_
          exact k
        obtain ⟨rfl, rfl⟩ := own_inj hf
        exact Gl.outN X0 hx hlk (t := .boolean) hret (by simp) (hb hby d6_55) ⟨rfl, N0, by rw [e0]; exact O0⟩ (by show _ ≤ 0; omega) (by show _ ≤ 0; omega)
      · rw [if_neg hc5] at hf
        refine Gl.on (B := T0.setTop (mkF m 47 #[.val (.int i0), .val (.int i1), .val (.int i2), .val (.int i3), .val (.int i4), .val (.int t0), .val (.int v2)] [(.int i2), (.int i3)])) (fun t k => ?_) ?_
        · show Steps p.tables e below (T0.setTop (mkF m 42 #[.val (.int i0), .val (.int i1), .val (.int i2), .val (.int i3), .val (.int i4), .val (.int t0), .val (.int v2)] [(.int i1), (.int i3)])) _
          refine XS.icmpNo X0.here hx rfl (hb hby d6_42) rfl (feq hc5).1 ?_
          show Steps p.tables e below (T0.setTop (mkF m 45 #[.val (.int i0), .val (.int i1), .val (.int i2), .val (.int i3), .val (.int i4), .val (.int t0), .val (.int v2)] [])) _
          refine XS.iloadN X0.here hx rfl (hb hby d6_45) rfl ?_
          show Steps p.tables e below (T0.setTop (mkF m 46 #[.val (.int i0), .val (.int i1), .val (.int i2), .val (.int i3), .val (.int i4), .val (.int t0), .val (.int v2)] [(.int i3)])) _
          refine XS.iloadN X0.here hx rfl (hb hby d6_46) rfl ?_
          exact k
        by_cases hc6 : i3 = i2
        · rw [if_pos hc6] at hf
          refine Gl.on (B := T0.setTop (mkF m 55 #[.val (.int i0), .val (.int i1), .val (.int i2), .val (.int i3), .val (.int i4), .val (.int t0), .val (.int v2)] [(.int (0 : Int32))])) (fun t k => ?_) ?_
          · show Steps p.tables e below (T0.setTop (mkF m 47 #[.val (.int i0), .val (.int i1), .val (.int i2), .val (.int i3), .val (.int i4), .val (.int t0), .val (.int v2)] [(.int i2), (.int i3)])) _
            refine XS.icmpYes X0.here hx rfl (pc0 := 47) (pc' := 54) rfl (hb hby d6_47) rfl (teq hc6).1 (by decide) (by decide) ?_
            show Steps p.tables e below (T0.setTop (mkF m 54 #[.val (.int i0), .val (.int i1), .val (.int i2), .val (.int i3), .val (.int i4), .val (.int t0), .val (.int v2)] [])) _
            refine XS.iconst X0.here hx rfl (hb hby d6_54) ?_
            exact k
          obtain ⟨rfl, rfl⟩ := own_inj hf
          exact Gl.outN X0 hx hlk (t := .boolean) hret (by simp) (hb hby d6_55) ⟨rfl, N0, by rw [e0]; exact O0⟩ (by show _ ≤ 0; omega) (by show _ ≤ 0; omega)
        · rw [if_neg hc6] at hf
          refine Gl.on (B := T0.setTop (mkF m 55 #[.val (.int i0), .val (.int i1), .val (.int i2), .val (.int i3), .val (.int i4), .val (.int t0), .val (.int v2)] [(.int (1 : Int32))])) (fun t k => ?_) ?_
          · show Steps p.tables e below (T0.setTop (mkF m 47 #[.val (.int i0), .val (.int i1), .val (.int i2), .val (.int i3), .val (.int i4), .val (.int t0), .val (.int v2)] [(.int i2), (.int i3)])) _
            refine XS.icmpNo X0.here hx rfl (hb hby d6_47) rfl (feq hc6).1 ?_
            show Steps p.tables e below (T0.setTop (mkF m 50 #[.val (.int i0), .val (.int i1), .val (.int i2), .val (.int i3), .val (.int i4), .val (.int t0), .val (.int v2)] [])) _
            refine XS.iconst X0.here hx rfl (hb hby d6_50) ?_
            show Steps p.tables e below (T0.setTop (mkF m 51 #[.val (.int i0), .val (.int i1), .val (.int i2), .val (.int i3), .val (.int i4), .val (.int t0), .val (.int v2)] [(.int (1 : Int32))])) _
            refine XS.goto X0.here hx rfl (pc0 := 51) (pc' := 55) rfl (hb hby d6_51) (by decide) (by decide) ?_
            exact k
          obtain ⟨rfl, rfl⟩ := own_inj hf
          exact Gl.outN X0 hx hlk (t := .boolean) hret (by simp) (hb hby d6_55) ⟨rfl, N0, by rw [e0]; exact O0⟩ (by show _ ≤ 0; omega) (by show _ ≤ 0; omega)
    · rw [if_neg hc4] at hf
      refine Gl.on (B := T0.setTop (mkF m 55 #[.val (.int i0), .val (.int i1), .val (.int i2), .val (.int i3), .val (.int i4), .val (.int t0), .val (.int v2)] [(.int (0 : Int32))])) (fun t k => ?_) ?_
      · show Steps p.tables e below (T0.setTop (mkF m 37 #[.val (.int i0), .val (.int i1), .val (.int i2), .val (.int i3), .val (.int i4), .val (.int t0), .val (.int v2)] [(.int i4), (.int v2)])) _
        refine XS.icmpYes X0.here hx rfl (pc0 := 37) (pc' := 54) rfl (hb hby d6_37) rfl (feq hc4).2 (by decide) (by decide) ?_
        show Steps p.tables e below (T0.setTop (mkF m 54 #[.val (.int i0), .val (.int i1), .val (.int i2), .val (.int i3), .val (.int i4), .val (.int t0), .val (.int v2)] [])) _
        refine XS.iconst X0.here hx rfl (hb hby d6_54) ?_
        exact k
      obtain ⟨rfl, rfl⟩ := own_inj hf
      exact Gl.outN X0 hx hlk (t := .boolean) hret (by simp) (hb hby d6_55) ⟨rfl, N0, by rw [e0]; exact O0⟩ (by show _ ≤ 0; omega) (by show _ ≤ 0; omega)
def f6 (D : Hp) (i0 : Int32) (i1 : Int32) (i2 : Int32) (i3 : Int32) (i4 : Int32) : Option (Int32 × Hp) :=
  if (((i0.toUInt32 >>> (((2 : Int32) * i3) &&& 31).toUInt32).toInt32) &&& (1 : Int32)) = (0 : Int32) then (b6_15 D i0 i1 i2 i3 i4 (0 : Int32)) else (b6_15 D i0 i1 i2 i3 i4 (1 : Int32))
theorem ef_6 (m : MethodId) (i0 : Int32) (i1 : Int32) (i2 : Int32) (i3 : Int32) (i4 : Int32) : entryFrame m #[(.int i0), (.int i1), (.int i2), (.int i3), (.int i4)] 7 = mkF m 0 #[.val (.int i0), .val (.int i1), .val (.int i2), .val (.int i3), .val (.int i4), .unset, .unset] [] := by first | (simp [entryFrame, mkF, argsToLocals, Value.category]; done) | rfl
set_option maxRecDepth 65536 in
set_option maxHeartbeats 40000000 in
theorem ct6 {l : Launch} {Z : State} {a0 : Array Value} (hw : ∀ d ∈ tables_1, d.before a0 Z = true) {n0 : Nat} {D D' : Hp} {i0 : Int32} {i1 : Int32} {i2 : Int32} {i3 : Int32} {i4 : Int32} {r : Int32} (hf : f6 D i0 i1 i2 i3 i4 = some (r, D')) :
    Ct Kt1 l Z (⟨"com/example/planar_drawing_kit/planardrawingkit/inspect/CrossingQueueRemovePinLaw", "stays", "(IIIII)Z"⟩ : MethodName) (.code (⟨"com/example/planar_drawing_kit/planardrawingkit/inspect/CrossingQueueRemovePinLaw", "stays", "(IIIII)Z"⟩ : MethodName) method_3_code 7 (some .boolean)) ({ frames := 0, cells := 0, slots := 0, locals := 0 } : Room) n0 D #[(.int i0), (.int i1), (.int i2), (.int i3), (.int i4)] (some (.int r)) D' := by
  refine Ct.of (plainFor_of_name pn_6) ?_
  intro p e s m below meth c T0 h0 hC X0 e0 O0
  obtain ⟨hx, hZ, hby, hml, hown, hnm, hret, hlk⟩ := id hC
  have hml : c.maxLocals = 7 := hml
  have hown : s.vm.findClass "com/example/planar_drawing_kit/planardrawingkit/inspect/CrossingQueueRemovePinLaw" = some m.cls := hown
  have hnm : meth.name = "stays" := hnm
  have N0 := Fr.nil n0
  refine Gl.on (fun t k => castTop (ef_6 m i0 i1 i2 i3 i4) k) ?_
  rw [f6] at hf
  refine Gl.on (B := T0.setTop (mkF m 7 #[.val (.int i0), .val (.int i1), .val (.int i2), .val (.int i3), .val (.int i4), .unset, .unset] [(.int (((i0.toUInt32 >>> (((2 : Int32) * i3) &&& 31).toUInt32).toInt32) &&& (1 : Int32)))])) (fun t k => ?_) ?_
  · show Steps p.tables e below (T0.setTop (mkF m 0 #[.val (.int i0), .val (.int i1), .val (.int i2), .val (.int i3), .val (.int i4), .unset, .unset] [])) _
    refine XS.iloadN X0.here hx rfl (hb hby d6_0) rfl ?_
    show Steps p.tables e below (T0.setTop (mkF m 1 #[.val (.int i0), .val (.int i1), .val (.int i2), .val (.int i3), .val (.int i4), .unset, .unset] [(.int i0)])) _
    refine XS.iconst X0.here hx rfl (hb hby d6_1) ?_
    show Steps p.tables e below (T0.setTop (mkF m 2 #[.val (.int i0), .val (.int i1), .val (.int i2), .val (.int i3), .val (.int i4), .unset, .unset] [(.int (2 : Int32)), (.int i0)])) _
    refine XS.iloadN X0.here hx rfl (hb hby d6_2) rfl ?_
    show Steps p.tables e below (T0.setTop (mkF m 3 #[.val (.int i0), .val (.int i1), .val (.int i2), .val (.int i3), .val (.int i4), .unset, .unset] [(.int i3), (.int (2 : Int32)), (.int i0)])) _
    refine XS.imul X0.here hx rfl (hb hby d6_3) rfl ?_
    show Steps p.tables e below (T0.setTop (mkF m 4 #[.val (.int i0), .val (.int i1), .val (.int i2), .val (.int i3), .val (.int i4), .unset, .unset] [(.int ((2 : Int32) * i3)), (.int i0)])) _
    refine XS.iushr X0.here hx rfl (hb hby d6_4) rfl ?_
    show Steps p.tables e below (T0.setTop (mkF m 5 #[.val (.int i0), .val (.int i1), .val (.int i2), .val (.int i3), .val (.int i4), .unset, .unset] [(.int ((i0.toUInt32 >>> (((2 : Int32) * i3) &&& 31).toUInt32).toInt32))])) _
    refine XS.iconst X0.here hx rfl (hb hby d6_5) ?_
    show Steps p.tables e below (T0.setTop (mkF m 6 #[.val (.int i0), .val (.int i1), .val (.int i2), .val (.int i3), .val (.int i4), .unset, .unset] [(.int (1 : Int32)), (.int ((i0.toUInt32 >>> (((2 : Int32) * i3) &&& 31).toUInt32).toInt32))])) _
    refine XS.iand X0.here hx rfl (hb hby d6_6) rfl ?_
    exact k
  by_cases hc1 : (((i0.toUInt32 >>> (((2 : Int32) * i3) &&& 31).toUInt32).toInt32) &&& (1 : Int32)) = (0 : Int32)
  · rw [if_pos hc1] at hf
    refine Gl.on (B := T0.setTop (mkF m 15 #[.val (.int i0), .val (.int i1), .val (.int i2), .val (.int i3), .val (.int i4), .unset, .unset] [(.int (0 : Int32))])) (fun t k => ?_) ?_
    · show Steps p.tables e below (T0.setTop (mkF m 7 #[.val (.int i0), .val (.int i1), .val (.int i2), .val (.int i3), .val (.int i4), .unset, .unset] [(.int (((i0.toUInt32 >>> (((2 : Int32) * i3) &&& 31).toUInt32).toInt32) &&& (1 : Int32)))])) _
      refine XS.ifYes X0.here hx rfl (pc0 := 7) (pc' := 14) rfl (hb hby d6_7) rfl ((if0 _ _).trans (teq hc1).1) (by decide) (by decide) ?_
      show Steps p.tables e below (T0.setTop (mkF m 14 #[.val (.int i0), .val (.int i1), .val (.int i2), .val (.int i3), .val (.int i4), .unset, .unset] [])) _
      refine XS.iconst X0.here hx rfl (hb hby d6_14) ?_
      exact k
    exact bt6_15 hw hC X0 e0 O0 N0 (by omega) (by omega) hf
  · rw [if_neg hc1] at hf
    refine Gl.on (B := T0.setTop (mkF m 15 #[.val (.int i0), .val (.int i1), .val (.int i2), .val (.int i3), .val (.int i4), .unset, .unset] [(.int (1 : Int32))])) (fun t k => ?_) ?_
    · show Steps p.tables e below (T0.setTop (mkF m 7 #[.val (.int i0), .val (.int i1), .val (.int i2), .val (.int i3), .val (.int i4), .unset, .unset] [(.int (((i0.toUInt32 >>> (((2 : Int32) * i3) &&& 31).toUInt32).toInt32) &&& (1 : Int32)))])) _
      refine XS.ifNo X0.here hx rfl (hb hby d6_7) rfl ((if0 _ _).trans (feq hc1).1) ?_
      show Steps p.tables e below (T0.setTop (mkF m 10 #[.val (.int i0), .val (.int i1), .val (.int i2), .val (.int i3), .val (.int i4), .unset, .unset] [])) _
      refine XS.iconst X0.here hx rfl (hb hby d6_10) ?_
      show Steps p.tables e below (T0.setTop (mkF m 11 #[.val (.int i0), .val (.int i1), .val (.int i2), .val (.int i3), .val (.int i4), .unset, .unset] [(.int (1 : Int32))])) _
      refine XS.goto X0.here hx rfl (pc0 := 11) (pc' := 15) rfl (hb hby d6_11) (by decide) (by decide) ?_
      exact k
    exact bt6_15 hw hC X0 e0 O0 N0 (by omega) (by omega) hf
theorem pd_1 : parseMethodDescriptor "(I)V" = some ⟨[.int], none⟩ := by decide +kernel
theorem d7_0 : decode prog_93_method_4_code 0 = .ok (.aload_n 0, 1) := by decide +kernel
theorem d7_1 : decode prog_93_method_4_code 1 = .ok (.getfield 9, 3) := by decide +kernel
theorem d7_4 : decode prog_93_method_4_code 4 = .ok (.iload_n 1, 1) := by decide +kernel
theorem d7_5 : decode prog_93_method_4_code 5 = .ok (.iaload, 1) := by decide +kernel
theorem d7_6 : decode prog_93_method_4_code 6 = .ok (.istore_n 2, 1) := by decide +kernel
theorem d7_7 : decode prog_93_method_4_code 7 = .ok (.iload_n 2, 1) := by decide +kernel
theorem d7_8 : decode prog_93_method_4_code 8 = .ok (.iconst (-1), 1) := by decide +kernel
theorem d7_9 : decode prog_93_method_4_code 9 = .ok (.if_icmp .eq 8, 3) := by decide +kernel
theorem d7_12 : decode prog_93_method_4_code 12 = .ok (.aload_n 0, 1) := by decide +kernel
theorem d7_13 : decode prog_93_method_4_code 13 = .ok (.iload_n 2, 1) := by decide +kernel
theorem d7_14 : decode prog_93_method_4_code 14 = .ok (.invokevirtual 30, 3) := by decide +kernel
theorem d7_17 : decode prog_93_method_4_code 17 = .ok (.iload_n 2, 1) := by decide +kernel
theorem d7_18 : decode prog_93_method_4_code 18 = .ok (.ireturn, 1) := by decide +kernel
theorem pn_7 : plainName "com/example/planar_drawing_kit/planardrawingkit/inspect/CrossingQueue" = true := by first | (simp [plainName, overriddenIn]; done) | decide +kernel
def f7 (D : Hp) (ob0 : Nat) (i1 : Int32) : Option (Int32 × Hp) :=
  (gR D ob0 1 0).bind fun x1 =>
  (rI D x1 0 i1).bind fun x3 =>
  if x3 = (-1 : Int32) then (some (x3, D)) else ((ck D ob0 1).bind fun u6 => (f4 D ob0 x3).bind fun D5 =>
  some (x3, D5))
theorem ef_7 (m : MethodId) (n0 : Nat) (ob0 : Nat) (i1 : Int32) : entryFrame m #[(.ref (n0 + ob0)), (.int i1)] 3 = mkF m 0 #[.val (.ref (n0 + ob0)), .val (.int i1), .unset] [] := by first | (simp [entryFrame, mkF, argsToLocals, Value.category]; done) | rfl
set_option maxRecDepth 65536 in
set_option maxHeartbeats 40000000 in
theorem ct7 {l : Launch} {Z : State} {a0 : Array Value} (hw : ∀ d ∈ tables_1, d.before a0 Z = true) {n0 : Nat} {D D' : Hp} {ob0 : Nat} {i1 : Int32} {r : Int32} (hf : f7 D ob0 i1 = some (r, D')) :
    Ct Kt1 l Z (⟨"com/example/planar_drawing_kit/planardrawingkit/inspect/CrossingQueue", "poll", "(I)I"⟩ : MethodName) (.code (⟨"com/example/planar_drawing_kit/planardrawingkit/inspect/CrossingQueue", "poll", "(I)I"⟩ : MethodName) prog_93_method_4_code 3 (some .int)) ({ frames := 1, cells := 0, slots := 0, locals := 14 } : Room) n0 D #[(.ref (n0 + ob0)), (.int i1)] (some (.int r)) D' := by
  refine Ct.of (plainFor_of_name pn_7) ?_
  intro p e s m below meth c T0 h0 hC X0 e0 O0
  obtain ⟨hx, hZ, hby, hml, hown, hnm, hret, hlk⟩ := id hC
  have hml : c.maxLocals = 3 := hml
  have hown : s.vm.findClass "com/example/planar_drawing_kit/planardrawingkit/inspect/CrossingQueue" = some m.cls := hown
  have hnm : meth.name = "poll" := hnm
  have N0 := Fr.nil n0
  refine Gl.on (fun t k => castTop (ef_7 m n0 ob0 i1) k) ?_
  rw [f7] at hf
  obtain ⟨x1, hx1, hf⟩ := own_bind hf
  obtain ⟨T2, X2, e2, st2⟩ := getF X0 hx hZ hown (host := "") (Or.inl (hw _ (List.mem_of_getElem? (i := 10) rfl))) Via.refl e0 (O0.fld (gR_e hx1) rfl rfl) (g := (mkF m 1 #[.val (.ref (n0 + ob0)), .val (.int i1), .unset] [(.ref (n0 + ob0))])) rfl rfl (hb hby d7_1)
  obtain ⟨x3, hx3, hf⟩ := own_bind hf
  refine Gl.on (B := T2.setTop (mkF m 9 #[.val (.ref (n0 + ob0)), .val (.int i1), .val (.int x3)] [(.int (-1 : Int32)), (.int x3)])) (fun t k => ?_) ?_
  · show Steps p.tables e below (T0.setTop (mkF m 0 #[.val (.ref (n0 + ob0)), .val (.int i1), .unset] [])) _
    refine XS.aloadN X0.here hx rfl (hb hby d7_0) rfl rfl ?_
    show Steps p.tables e below (T0.setTop (mkF m 1 #[.val (.ref (n0 + ob0)), .val (.int i1), .unset] [(.ref (n0 + ob0))])) _
    refine st2 _ ?_
    show Steps p.tables e below (T2.setTop (mkF m 4 #[.val (.ref (n0 + ob0)), .val (.int i1), .unset] [(.ref (n0 + x1))])) _
    refine XS.iloadN X2.here hx rfl (hb hby d7_4) rfl ?_
    show Steps p.tables e below (T2.setTop (mkF m 5 #[.val (.ref (n0 + ob0)), .val (.int i1), .unset] [(.int i1), (.ref (n0 + x1))])) _
    refine ldW X2 hx hZ e2 O0 hx3 rfl (g := (mkF m 5 #[.val (.ref (n0 + ob0)), .val (.int i1), .unset] [(.int i1), (.ref (n0 + x1))])) rfl rfl (hb hby d7_5) _ ?_
    show Steps p.tables e below (T2.setTop (mkF m 6 #[.val (.ref (n0 + ob0)), .val (.int i1), .unset] [(.int x3)])) _
    refine XS.istoreN X2.here hx rfl (hb hby d7_6) rfl (l' := #[.val (.ref (n0 + ob0)), .val (.int i1), .val (.int x3)]) rfl ?_
    show Steps p.tables e below (T2.setTop (mkF m 7 #[.val (.ref (n0 + ob0)), .val (.int i1), .val (.int x3)] [])) _
    refine XS.iloadN X2.here hx rfl (hb hby d7_7) rfl ?_
    show Steps p.tables e below (T2.setTop (mkF m 8 #[.val (.ref (n0 + ob0)), .val (.int i1), .val (.int x3)] [(.int x3)])) _
    refine XS.iconst X2.here hx rfl (hb hby d7_8) ?_
    exact k
  by_cases hc4 : x3 = (-1 : Int32)
  · rw [if_pos hc4] at hf
    refine Gl.on (B := T2.setTop (mkF m 18 #[.val (.ref (n0 + ob0)), .val (.int i1), .val (.int x3)] [(.int x3)])) (fun t k => ?_) ?_
    · show Steps p.tables e below (T2.setTop (mkF m 9 #[.val (.ref (n0 + ob0)), .val (.int i1), .val (.int x3)] [(.int (-1 : Int32)), (.int x3)])) _
      refine XS.icmpYes X2.here hx rfl (pc0 := 9) (pc' := 17) rfl (hb hby d7_9) rfl (teq hc4).1 (by decide) (by decide) ?_
      show Steps p.tables e below (T2.setTop (mkF m 17 #[.val (.ref (n0 + ob0)), .val (.int i1), .val (.int x3)] [])) _
      refine XS.iloadN X2.here hx rfl (hb hby d7_17) rfl ?_
      exact k
    obtain ⟨rfl, rfl⟩ := own_inj hf
    exact Gl.outI X2 hx hlk hret (hb hby d7_18) ⟨rfl, N0, by rw [e2]; exact O0⟩ (by show _ ≤ 0; omega) (by show _ ≤ 0; omega)
  · rw [if_neg hc4] at hf
    obtain ⟨u6, hk5, hf⟩ := own_bind hf
    obtain ⟨D5, hq5, hf⟩ := own_bind hf
    obtain ⟨T5, h5, L5, X5, e5, O5, N5, st5⟩ := callVW X2 hx hZ (y := (⟨"com/example/planar_drawing_kit/planardrawingkit/inspect/CrossingQueue", "remove", "(I)V"⟩ : MethodName)) hown (hw _ (List.mem_of_getElem? (i := 45) rfl)) (hw _ (List.mem_of_getElem? (i := 24) rfl)) (hw _ (List.mem_of_getElem? (i := 26) rfl)) (hw _ (List.mem_of_getElem? (i := 25) rfl)) (hw _ (List.mem_of_getElem? (i := 2) rfl)) (hw _ (List.mem_of_getElem? (i := 27) rfl)) (by decide) e2 O0 N0 hk5 rfl (as' := [(.int x3)]) (ct4 hw hq5) (W := 0) (kc := 0) (ks := 0) rfl rfl (by decide) (by decide) (g := (mkF m 14 #[.val (.ref (n0 + ob0)), .val (.int i1), .val (.int x3)] [(.int x3), (.ref (n0 + ob0))])) rfl (by rw [hml]; rfl) (rest := []) (lenOf pd_1 rfl) rfl (by show 2 * 0 + _ ≤ _; exact Nat.le_of_eq rfl) (hb hby d7_14) (by show _ + 0 ≤ 0; omega) (by show _ + 0 ≤ 0; omega)
    refine Gl.on (B := T5.setTop (mkF m 18 #[.val (.ref (n0 + ob0)), .val (.int i1), .val (.int x3)] [(.int x3)])) (fun t k => ?_) ?_
    · show Steps p.tables e below (T2.setTop (mkF m 9 #[.val (.ref (n0 + ob0)), .val (.int i1), .val (.int x3)] [(.int (-1 : Int32)), (.int x3)])) _
      refine XS.icmpNo X2.here hx rfl (hb hby d7_9) rfl (feq hc4).1 ?_
      show Steps p.tables e below (T2.setTop (mkF m 12 #[.val (.ref (n0 + ob0)), .val (.int i1), .val (.int x3)] [])) _
      refine XS.aloadN X2.here hx rfl (hb hby d7_12) rfl rfl ?_
      show Steps p.tables e below (T2.setTop (mkF m 13 #[.val (.ref (n0 + ob0)), .val (.int i1), .val (.int x3)] [(.ref (n0 + ob0))])) _
      refine XS.iloadN X2.here hx rfl (hb hby d7_13) rfl ?_
      show Steps p.tables e below (T2.setTop (mkF m 14 #[.val (.ref (n0 + ob0)), .val (.int i1), .val (.int x3)] [(.int x3), (.ref (n0 + ob0))])) _
      refine st5 _ ?_
      show Steps p.tables e below (T5.setTop (mkF m 17 #[.val (.ref (n0 + ob0)), .val (.int i1), .val (.int x3)] [])) _
      refine XS.iloadN X5.here hx rfl (hb hby d7_17) rfl ?_
      exact k
    obtain ⟨rfl, rfl⟩ := own_inj hf
    exact Gl.outI X5 hx hlk hret (hb hby d7_18) ⟨rfl, N5, by rw [e5]; exact O5⟩ (by show _ ≤ 0; omega) (by show _ ≤ 0; omega)
theorem pd_2 : parseMethodDescriptor "(IIIII)Z" = some ⟨[.int, .int, .int, .int, .int], some .boolean⟩ := by decide +kernel
theorem pd_3 : parseMethodDescriptor "(I)I" = some ⟨[.int], some .int⟩ := by decide +kernel
theorem d5_0 : decode method_4_code 0 = .ok (.iconst 4, 1) := by decide +kernel
theorem d5_1 : decode method_4_code 1 = .ok (.newarray .int, 2) := by decide +kernel
theorem d5_3 : decode method_4_code 3 = .ok (.dup, 1) := by decide +kernel
theorem d5_4 : decode method_4_code 4 = .ok (.iconst 0, 1) := by decide +kernel
theorem d5_5 : decode method_4_code 5 = .ok (.iconst (-1), 1) := by decide +kernel
theorem d5_6 : decode method_4_code 6 = .ok (.iastore, 1) := by decide +kernel
theorem d5_7 : decode method_4_code 7 = .ok (.dup, 1) := by decide +kernel
theorem d5_8 : decode method_4_code 8 = .ok (.iconst 1, 1) := by decide +kernel
theorem d5_9 : decode method_4_code 9 = .ok (.iconst (-1), 1) := by decide +kernel
theorem d5_10 : decode method_4_code 10 = .ok (.iastore, 1) := by decide +kernel
theorem d5_11 : decode method_4_code 11 = .ok (.dup, 1) := by decide +kernel
theorem d5_12 : decode method_4_code 12 = .ok (.iconst 2, 1) := by decide +kernel
theorem d5_13 : decode method_4_code 13 = .ok (.iconst (-1), 1) := by decide +kernel
theorem d5_14 : decode method_4_code 14 = .ok (.iastore, 1) := by decide +kernel
theorem d5_15 : decode method_4_code 15 = .ok (.dup, 1) := by decide +kernel
theorem d5_16 : decode method_4_code 16 = .ok (.iconst 3, 1) := by decide +kernel
theorem d5_17 : decode method_4_code 17 = .ok (.iconst (-1), 1) := by decide +kernel
theorem d5_18 : decode method_4_code 18 = .ok (.iastore, 1) := by decide +kernel
theorem d5_19 : decode method_4_code 19 = .ok (.astore 5, 2) := by decide +kernel
theorem d5_21 : decode method_4_code 21 = .ok (.iconst 0, 1) := by decide +kernel
theorem d5_22 : decode method_4_code 22 = .ok (.istore 6, 2) := by decide +kernel
theorem d5_24 : decode method_4_code 24 = .ok (.iload_n 1, 1) := by decide +kernel
theorem d5_25 : decode method_4_code 25 = .ok (.iload_n 2, 1) := by decide +kernel
theorem d5_26 : decode method_4_code 26 = .ok (.iload_n 3, 1) := by decide +kernel
theorem d5_27 : decode method_4_code 27 = .ok (.iconst 2, 1) := by decide +kernel
theorem d5_28 : decode method_4_code 28 = .ok (.iload 4, 2) := by decide +kernel
theorem d5_30 : decode method_4_code 30 = .ok (.invokestatic 26, 3) := by decide +kernel
theorem d5_33 : decode method_4_code 33 = .ok (.ifCond .eq 12, 3) := by decide +kernel
theorem d5_36 : decode method_4_code 36 = .ok (.aload 5, 2) := by decide +kernel
theorem d5_38 : decode method_4_code 38 = .ok (.iload 6, 2) := by decide +kernel
theorem d5_40 : decode method_4_code 40 = .ok (.iconst 2, 1) := by decide +kernel
theorem d5_41 : decode method_4_code 41 = .ok (.iastore, 1) := by decide +kernel
theorem d5_42 : decode method_4_code 42 = .ok (.iinc 6 1, 3) := by decide +kernel
theorem d5_45 : decode method_4_code 45 = .ok (.iload_n 1, 1) := by decide +kernel
theorem d5_46 : decode method_4_code 46 = .ok (.iload_n 2, 1) := by decide +kernel
theorem d5_47 : decode method_4_code 47 = .ok (.iload_n 3, 1) := by decide +kernel
theorem d5_48 : decode method_4_code 48 = .ok (.iconst 1, 1) := by decide +kernel
theorem d5_49 : decode method_4_code 49 = .ok (.iload 4, 2) := by decide +kernel
theorem d5_51 : decode method_4_code 51 = .ok (.invokestatic 26, 3) := by decide +kernel
theorem d5_54 : decode method_4_code 54 = .ok (.ifCond .eq 12, 3) := by decide +kernel
theorem d5_57 : decode method_4_code 57 = .ok (.aload 5, 2) := by decide +kernel
theorem d5_59 : decode method_4_code 59 = .ok (.iload 6, 2) := by decide +kernel
theorem d5_61 : decode method_4_code 61 = .ok (.iconst 1, 1) := by decide +kernel
theorem d5_62 : decode method_4_code 62 = .ok (.iastore, 1) := by decide +kernel
theorem d5_63 : decode method_4_code 63 = .ok (.iinc 6 1, 3) := by decide +kernel
theorem d5_66 : decode method_4_code 66 = .ok (.iload_n 1, 1) := by decide +kernel
theorem d5_67 : decode method_4_code 67 = .ok (.iload_n 2, 1) := by decide +kernel
theorem d5_68 : decode method_4_code 68 = .ok (.iload_n 3, 1) := by decide +kernel
theorem d5_69 : decode method_4_code 69 = .ok (.iconst 0, 1) := by decide +kernel
theorem d5_70 : decode method_4_code 70 = .ok (.iload 4, 2) := by decide +kernel
theorem d5_72 : decode method_4_code 72 = .ok (.invokestatic 26, 3) := by decide +kernel
theorem d5_75 : decode method_4_code 75 = .ok (.ifCond .eq 12, 3) := by decide +kernel
theorem d5_78 : decode method_4_code 78 = .ok (.aload 5, 2) := by decide +kernel
theorem d5_80 : decode method_4_code 80 = .ok (.iload 6, 2) := by decide +kernel
theorem d5_82 : decode method_4_code 82 = .ok (.iconst 0, 1) := by decide +kernel
theorem d5_83 : decode method_4_code 83 = .ok (.iastore, 1) := by decide +kernel
theorem d5_84 : decode method_4_code 84 = .ok (.iinc 6 1, 3) := by decide +kernel
theorem d5_87 : decode method_4_code 87 = .ok (.aload_n 0, 1) := by decide +kernel
theorem d5_88 : decode method_4_code 88 = .ok (.iload 4, 2) := by decide +kernel
theorem d5_90 : decode method_4_code 90 = .ok (.invokevirtual 30, 3) := by decide +kernel
theorem d5_93 : decode method_4_code 93 = .ok (.aload 5, 2) := by decide +kernel
theorem d5_95 : decode method_4_code 95 = .ok (.iconst 0, 1) := by decide +kernel
theorem d5_96 : decode method_4_code 96 = .ok (.iaload, 1) := by decide +kernel
theorem d5_97 : decode method_4_code 97 = .ok (.if_icmp .ne 33, 3) := by decide +kernel
theorem d5_100 : decode method_4_code 100 = .ok (.aload_n 0, 1) := by decide +kernel
theorem d5_101 : decode method_4_code 101 = .ok (.iload 4, 2) := by decide +kernel
theorem d5_103 : decode method_4_code 103 = .ok (.invokevirtual 30, 3) := by decide +kernel
theorem d5_106 : decode method_4_code 106 = .ok (.aload 5, 2) := by decide +kernel
theorem d5_108 : decode method_4_code 108 = .ok (.iconst 1, 1) := by decide +kernel
theorem d5_109 : decode method_4_code 109 = .ok (.iaload, 1) := by decide +kernel
theorem d5_110 : decode method_4_code 110 = .ok (.if_icmp .ne 20, 3) := by decide +kernel
theorem d5_113 : decode method_4_code 113 = .ok (.aload_n 0, 1) := by decide +kernel
theorem d5_114 : decode method_4_code 114 = .ok (.iload 4, 2) := by decide +kernel
theorem d5_116 : decode method_4_code 116 = .ok (.invokevirtual 30, 3) := by decide +kernel
theorem d5_119 : decode method_4_code 119 = .ok (.aload 5, 2) := by decide +kernel
theorem d5_121 : decode method_4_code 121 = .ok (.iconst 2, 1) := by decide +kernel
theorem d5_122 : decode method_4_code 122 = .ok (.iaload, 1) := by decide +kernel
theorem d5_123 : decode method_4_code 123 = .ok (.if_icmp .ne 7, 3) := by decide +kernel
theorem d5_126 : decode method_4_code 126 = .ok (.iconst 1, 1) := by decide +kernel
theorem d5_127 : decode method_4_code 127 = .ok (.goto 4, 3) := by decide +kernel
theorem d5_130 : decode method_4_code 130 = .ok (.iconst 0, 1) := by decide +kernel
theorem d5_131 : decode method_4_code 131 = .ok (.istore 7, 2) := by decide +kernel
theorem d5_133 : decode method_4_code 133 = .ok (.iload 6, 2) := by decide +kernel
theorem d5_135 : decode method_4_code 135 = .ok (.iconst 3, 1) := by decide +kernel
theorem d5_136 : decode method_4_code 136 = .ok (.if_icmp .ne 25, 3) := by decide +kernel
theorem d5_139 : decode method_4_code 139 = .ok (.iload 7, 2) := by decide +kernel
theorem d5_141 : decode method_4_code 141 = .ok (.ifCond .eq 17, 3) := by decide +kernel
theorem d5_144 : decode method_4_code 144 = .ok (.aload_n 0, 1) := by decide +kernel
theorem d5_145 : decode method_4_code 145 = .ok (.iload 4, 2) := by decide +kernel
theorem d5_147 : decode method_4_code 147 = .ok (.invokevirtual 30, 3) := by decide +kernel
theorem d5_150 : decode method_4_code 150 = .ok (.iconst (-1), 1) := by decide +kernel
theorem d5_151 : decode method_4_code 151 = .ok (.if_icmp .ne 7, 3) := by decide +kernel
theorem d5_154 : decode method_4_code 154 = .ok (.iconst 1, 1) := by decide +kernel
theorem d5_155 : decode method_4_code 155 = .ok (.goto 4, 3) := by decide +kernel
theorem d5_158 : decode method_4_code 158 = .ok (.iconst 0, 1) := by decide +kernel
theorem d5_159 : decode method_4_code 159 = .ok (.istore 7, 2) := by decide +kernel
theorem d5_161 : decode method_4_code 161 = .ok (.iload 7, 2) := by decide +kernel
theorem d5_163 : decode method_4_code 163 = .ok (.ireturn, 1) := by decide +kernel
theorem pn_5 : plainName "com/example/planar_drawing_kit/planardrawingkit/inspect/CrossingQueueRemovePinLaw" = true := by first | (simp [plainName, overriddenIn]; done) | decide +kernel
def b5_131 (D : Hp) (ob0 : Nat) (i4 : Int32) (i6 : Int32) (t0 : Int32) : Option (Int32 × Hp) :=
  if i6 = (3 : Int32) then (if t0 = (0 : Int32) then (some ((0 : Int32), D)) else ((ck D ob0 1).bind fun u36 => (f7 D ob0 i4).bind fun q35 => own_let q35.1 fun x37 => own_let q35.2 fun D35 =>
  if x37 = (-1 : Int32) then (some ((1 : Int32), D35)) else (some ((0 : Int32), D35)))) else (some ((t0 &&& 1), D))
set_option maxRecDepth 65536 in
set_option maxHeartbeats 40000000 in
theorem bt5_131 {p : Program} {l : Launch} {e : Env} {s : State} {m : MethodId} {args : Array Value} {below : List Frame} {meth : Method} {c : Code} {Z : State} {a0 : Array Value} {n0 : Nat} {D' : Hp} {r : Int32} {T0 : State} {locs : List Loc} {cells slots : Nat} {h0 : Heap} {D : Hp} {ob0 : Nat} {i1 : Int32} {i2 : Int32} {i3 : Int32} {i4 : Int32} {ob5 : Nat} {i6 : Int32} {t0 : Int32} (hw : ∀ d ∈ tables_1, d.before a0 Z = true) (hC : Cx p s m meth c Z method_4_code 8 (some .boolean) "com/example/planar_drawing_kit/planardrawingkit/inspect/CrossingQueueRemovePinLaw" "drains") (X0 : Stand p l e ({ frames := 2, cells := 1, slots := 4, locals := 28 } : Room) s m args below meth c T0 locs cells slots) (e0 : T0.heap = h0) (O0 : Ow Kt1 Z h0 n0 D) (N0 : Fr n0 locs) (hcc : cells ≤ 1) (hss : slots ≤ 4) (hf : b5_131 D ob0 i4 i6 t0 = some (r, D')) : Gl p e below s 1 4 (Qw Kt1 Z n0 (some (.int r)) D') (T0.setTop (mkF m 131 #[.val (.ref (n0 + ob0)), .val (.int i1), .val (.int i2), .val (.int i3), .val (.int i4), .val (.ref (n0 + ob5)), .val (.int i6), .unset] [(.int t0)])) := by
  obtain ⟨hx, hZ, hby, hml, hown, hnm, hret, hlk⟩ := id hC
  have hml : c.maxLocals = 8 := hml
  rw [b5_131] at hf
  refine Gl.on (B := T0.setTop (mkF m 136 #[.val (.ref (n0 + ob0)), .val (.int i1), .val (.int i2), .val (.int i3), .val (.int i4), .val (.ref (n0 + ob5)), .val (.int i6), .val (.int t0)] [(.int (3 : Int32)), (.int i6)])) (fun t k => ?_) ?_
  · show Steps p.tables e below (T0.setTop (mkF m 131 #[.val (.ref (n0 + ob0)), .val (.int i1), .val (.int i2), .val (.int i3), .val (.int i4), .val (.ref (n0 + ob5)), .val (.int i6), .unset] [(.int t0)])) _
    refine XS.istore X0.here hx rfl (hb hby d5_131) rfl (l' := #[.val (.ref (n0 + ob0)), .val (.int i1), .val (.int i2), .val (.int i3), .val (.int i4), .val (.ref (n0 + ob5)), .val (.int i6), .val (.int t0)]) rfl ?_
    show Steps p.tables e below (T0.setTop (mkF m 133 #[.val (.ref (n0 + ob0)), .val (.int i1), .val (.int i2), .val (.int i3), .val (.int i4), .val (.ref (n0 + ob5)), .val (.int i6), .val (.int t0)] [])) _
    refine XS.iload X0.here hx rfl (hb hby d5_133) rfl ?_
    show Steps p.tables e below (T0.setTop (mkF m 135 #[.val (.ref (n0 + ob0)), .val (.int i1), .val (.int i2), .val (.int i3), .val (.int i4), .val (.ref (n0 + ob5)), .val (.int i6), .val (.int t0)] [(.int i6)])) _
    refine XS.iconst X0.here hx rfl (hb hby d5_135) ?_
    exact k
  by_cases hc33 : i6 = (3 : Int32)
  · rw [if_pos hc33] at hf
    refine Gl.on (B := T0.setTop (mkF m 141 #[.val (.ref (n0 + ob0)), .val (.int i1), .val (.int i2), .val (.int i3), .val (.int i4), .val (.ref (n0 + ob5)), .val (.int i6), .val (.int t0)] [(.int t0)])) (fun t k => ?_) ?_
    · show Steps p.tables e below (T0.setTop (mkF m 136 #[.val (.ref (n0 + ob0)), .val (.int i1), .val (.int i2), .val (.int i3), .val (.int i4), .val (.ref (n0 + ob5)), .val (.int i6), .val (.int t0)] [(.int (3 : Int32)), (.int i6)])) _
      refine XS.icmpNo X0.here hx rfl (hb hby d5_136) rfl (teq hc33).2 ?_
      show Steps p.tables e below (T0.setTop (mkF m 139 #[.val (.ref (n0 + ob0)), .val (.int i1), .val (.int i2), .val (.int i3), .val (.int i4), .val (.ref (n0 + ob5)), .val (.int i6), .val (.int t0)] [])) _
      refine XS.iload X0.here hx rfl (hb hby d5_139) rfl ?_
      exact k
    by_cases hc34 : t0 = (0 : Int32)
    · rw [if_pos hc34] at hf
      refine Gl.on (B := T0.setTop (mkF m 163 #[.val (.ref (n0 + ob0)), .val (.int i1), .val (.int i2), .val (.int i3), .val (.int i4), .val (.ref (n0 + ob5)), .val (.int i6), .val (.int (0 : Int32))] [(.int (0 : Int32))])) (fun t k => ?_) ?_
      · show Steps p.tables e below (T0.setTop (mkF m 141 #[.val (.ref (n0 + ob0)), .val (.int i1), .val (.int i2), .val (.int i3), .val (.int i4), .val (.ref (n0 + ob5)), .val (.int i6), .val (.int t0)] [(.int t0)])) _
        refine XS.ifYes X0.here hx rfl (pc0 := 141) (pc' := 158) rfl (hb hby d5_141) rfl ((if0 _ _).trans (teq hc34).1) (by decide) (by decide) ?_
        show Steps p.tables e below (T0.setTop (mkF m 158 #[.val (.ref (n0 + ob0)), .val (.int i1), .val (.int i2), .val (.int i3), .val (.int i4), .val (.ref (n0 + ob5)), .val (.int i6), .val (.int t0)] [])) _
        refine XS.iconst X0.here hx rfl (hb hby d5_158) ?_
        show Steps p.tables e below (T0.setTop (mkF m 159 #[.val (.ref (n0 + ob0)), .val (.int i1), .val (.int i2), .val (.int i3), .val (.int i4), .val (.ref (n0 + ob5)), .val (.int i6), .val (.int t0)] [(.int (0 : Int32))])) _
        refine XS.istore X0.here hx rfl (hb hby d5_159) rfl (l' := #[.val (.ref (n0 + ob0)), .val (.int i1), .val (.int i2), .val (.int i3), .val (.int i4), .val (.ref (n0 + ob5)), .val (.int i6), .val (.int (0 : Int32))]) rfl ?_
        show Steps p.tables e below (T0.setTop (mkF m 161 #[.val (.ref (n0 + ob0)), .val (.int i1), .val (.int i2), .val (.int i3), .val (.int i4), .val (.ref (n0 + ob5)), .val (.int i6), .val (.int (0 : Int32))] [])) _
        refine XS.iload X0.here hx rfl (hb hby d5_161) rfl ?_
        exact k
      obtain ⟨rfl, rfl⟩ := own_inj hf
      exact Gl.outN X0 hx hlk (t := .boolean) hret (by simp) (hb hby d5_163) ⟨rfl, N0, by rw [e0]; exact O0⟩ (by show _ ≤ 1; omega) (by show _ ≤ 4; omega)
    · rw [if_neg hc34] at hf
      obtain ⟨u36, hk35, hf⟩ := own_bind hf
      obtain ⟨⟨x37, D35⟩, hq35, hf⟩ := own_bind hf
      obtain ⟨_, rfl, hf⟩ := own_letE hf
      obtain ⟨_, rfl, hf⟩ := own_letE hf
      obtain ⟨T35, h35, L35, X35, e35, O35, N35, st35⟩ := callVW X0 hx hZ (y := (⟨"com/example/planar_drawing_kit/planardrawingkit/inspect/CrossingQueue", "poll", "(I)I"⟩ : MethodName)) hown (hw _ (List.mem_of_getElem? (i := 35) rfl)) (hw _ (List.mem_of_getElem? (i := 36) rfl)) (hw _ (List.mem_of_getElem? (i := 38) rfl)) (hw _ (List.mem_of_getElem? (i := 37) rfl)) (hw _ (List.mem_of_getElem? (i := 2) rfl)) (hw _ (List.mem_of_getElem? (i := 39) rfl)) (by decide) e0 O0 N0 hk35 rfl (as' := [(.int i4)]) (ct7 hw hq35) (W := 0) (kc := 0) (ks := 0) rfl rfl (by decide) (by decide) (g := (mkF m 147 #[.val (.ref (n0 + ob0)), .val (.int i1), .val (.int i2), .val (.int i3), .val (.int i4), .val (.ref (n0 + ob5)), .val (.int i6), .val (.int t0)] [(.int i4), (.ref (n0 + ob0))])) rfl (by rw [hml]; rfl) (rest := []) (lenOf pd_3 rfl) rfl (by show 2 * 0 + _ ≤ _; exact Nat.le_of_eq rfl) (hb hby d5_147) (by show _ + 0 ≤ 1; omega) (by show _ + 0 ≤ 4; omega)
      refine Gl.on (B := T35.setTop (mkF m 151 #[.val (.ref (n0 + ob0)), .val (.int i1), .val (.int i2), .val (.int i3), .val (.int i4), .val (.ref (n0 + ob5)), .val (.int i6), .val (.int t0)] [(.int (-1 : Int32)), (.int x37)])) (fun t k => ?_) ?_
      · show Steps p.tables e below (T0.setTop (mkF m 141 #[.val (.ref (n0 + ob0)), .val (.int i1), .val (.int i2), .val (.int i3), .val (.int i4), .val (.ref (n0 + ob5)), .val (.int i6), .val (.int t0)] [(.int t0)])) _
        refine XS.ifNo X0.here hx rfl (hb hby d5_141) rfl ((if0 _ _).trans (feq hc34).1) ?_
        show Steps p.tables e below (T0.setTop (mkF m 144 #[.val (.ref (n0 + ob0)), .val (.int i1), .val (.int i2), .val (.int i3), .val (.int i4), .val (.ref (n0 + ob5)), .val (.int i6), .val (.int t0)] [])) _
        refine XS.aloadN X0.here hx rfl (hb hby d5_144) rfl rfl ?_
        show Steps p.tables e below (T0.setTop (mkF m 145 #[.val (.ref (n0 + ob0)), .val (.int i1), .val (.int i2), .val (.int i3), .val (.int i4), .val (.ref (n0 + ob5)), .val (.int i6), .val (.int t0)] [(.ref (n0 + ob0))])) _
        refine XS.iload X0.here hx rfl (hb hby d5_145) rfl ?_
        show Steps p.tables e below (T0.setTop (mkF m 147 #[.val (.ref (n0 + ob0)), .val (.int i1), .val (.int i2), .val (.int i3), .val (.int i4), .val (.ref (n0 + ob5)), .val (.int i6), .val (.int t0)] [(.int i4), (.ref (n0 + ob0))])) _
        refine st35 _ ?_
        show Steps p.tables e below (T35.setTop (mkF m 150 #[.val (.ref (n0 + ob0)), .val (.int i1), .val (.int i2), .val (.int i3), .val (.int i4), .val (.ref (n0 + ob5)), .val (.int i6), .val (.int t0)] [(.int x37)])) _
        refine XS.iconst X35.here hx rfl (hb hby d5_150) ?_
        exact k
      by_cases hc38 : x37 = (-1 : Int32)
      · rw [if_pos hc38] at hf
        refine Gl.on (B := T35.setTop (mkF m 163 #[.val (.ref (n0 + ob0)), .val (.int i1), .val (.int i2), .val (.int i3), .val (.int i4), .val (.ref (n0 + ob5)), .val (.int i6), .val (.int (1 : Int32))] [(.int (1 : Int32))])) (fun t k => ?_) ?_
        · show Steps p.tables e below (T35.setTop (mkF m 151 #[.val (.ref (n0 + ob0)), .val (.int i1), .val (.int i2), .val (.int i3), .val (.int i4), .val (.ref (n0 + ob5)), .val (.int i6), .val (.int t0)] [(.int (-1 : Int32)), (.int x37)])) _
          refine XS.icmpNo X35.here hx rfl (hb hby d5_151) rfl (teq hc38).2 ?_
          show Steps p.tables e below (T35.setTop (mkF m 154 #[.val (.ref (n0 + ob0)), .val (.int i1), .val (.int i2), .val (.int i3), .val (.int i4), .val (.ref (n0 + ob5)), .val (.int i6), .val (.int t0)] [])) _
          refine XS.iconst X35.here hx rfl (hb hby d5_154) ?_
          show Steps p.tables e below (T35.setTop (mkF m 155 #[.val (.ref (n0 + ob0)), .val (.int i1), .val (.int i2), .val (.int i3), .val (.int i4), .val (.ref (n0 + ob5)), .val (.int i6), .val (.int t0)] [(.int (1 : Int32))])) _
          refine XS.goto X35.here hx rfl (pc0 := 155) (pc' := 159) rfl (hb hby d5_155) (by decide) (by decide) ?_
          show Steps p.tables e below (T35.setTop (mkF m 159 #[.val (.ref (n0 + ob0)), .val (.int i1), .val (.int i2), .val (.int i3), .val (.int i4), .val (.ref (n0 + ob5)), .val (.int i6), .val (.int t0)] [(.int (1 : Int32))])) _
          refine XS.istore X35.here hx rfl (hb hby d5_159) rfl (l' := #[.val (.ref (n0 + ob0)), .val (.int i1), .val (.int i2), .val (.int i3), .val (.int i4), .val (.ref (n0 + ob5)), .val (.int i6), .val (.int (1 : Int32))]) rfl ?_
          show Steps p.tables e below (T35.setTop (mkF m 161 #[.val (.ref (n0 + ob0)), .val (.int i1), .val (.int i2), .val (.int i3), .val (.int i4), .val (.ref (n0 + ob5)), .val (.int i6), .val (.int (1 : Int32))] [])) _
          refine XS.iload X35.here hx rfl (hb hby d5_161) rfl ?_
          exact k
        obtain ⟨rfl, rfl⟩ := own_inj hf
        exact Gl.outN X35 hx hlk (t := .boolean) hret (by simp) (hb hby d5_163) ⟨rfl, N35, by rw [e35]; exact O35⟩ (by show _ ≤ 1; omega) (by show _ ≤ 4; omega)
      · rw [if_neg hc38] at hf
        refine Gl.on (B := T35.setTop (mkF m 163 #[.val (.ref (n0 + ob0)), .val (.int i1), .val (.int i2), .val (.int i3), .val (.int i4), .val (.ref (n0 + ob5)), .val (.int i6), .val (.int (0 : Int32))] [(.int (0 : Int32))])) (fun t k => ?_) ?_
        · show Steps p.tables e below (T35.setTop (mkF m 151 #[.val (.ref (n0 + ob0)), .val (.int i1), .val (.int i2), .val (.int i3), .val (.int i4), .val (.ref (n0 + ob5)), .val (.int i6), .val (.int t0)] [(.int (-1 : Int32)), (.int x37)])) _
          refine XS.icmpYes X35.here hx rfl (pc0 := 151) (pc' := 158) rfl (hb hby d5_151) rfl (feq hc38).2 (by decide) (by decide) ?_
          show Steps p.tables e below (T35.setTop (mkF m 158 #[.val (.ref (n0 + ob0)), .val (.int i1), .val (.int i2), .val (.int i3), .val (.int i4), .val (.ref (n0 + ob5)), .val (.int i6), .val (.int t0)] [])) _
          refine XS.iconst X35.here hx rfl (hb hby d5_158) ?_
          show Steps p.tables e below (T35.setTop (mkF m 159 #[.val (.ref (n0 + ob0)), .val (.int i1), .val (.int i2), .val (.int i3), .val (.int i4), .val (.ref (n0 + ob5)), .val (.int i6), .val (.int t0)] [(.int (0 : Int32))])) _
          refine XS.istore X35.here hx rfl (hb hby d5_159) rfl (l' := #[.val (.ref (n0 + ob0)), .val (.int i1), .val (.int i2), .val (.int i3), .val (.int i4), .val (.ref (n0 + ob5)), .val (.int i6), .val (.int (0 : Int32))]) rfl ?_
          show Steps p.tables e below (T35.setTop (mkF m 161 #[.val (.ref (n0 + ob0)), .val (.int i1), .val (.int i2), .val (.int i3), .val (.int i4), .val (.ref (n0 + ob5)), .val (.int i6), .val (.int (0 : Int32))] [])) _
          refine XS.iload X35.here hx rfl (hb hby d5_161) rfl ?_
          exact k
        obtain ⟨rfl, rfl⟩ := own_inj hf
        exact Gl.outN X35 hx hlk (t := .boolean) hret (by simp) (hb hby d5_163) ⟨rfl, N35, by rw [e35]; exact O35⟩ (by show _ ≤ 1; omega) (by show _ ≤ 4; omega)
  · rw [if_neg hc33] at hf
    refine Gl.on (B := T0.setTop (mkF m 163 #[.val (.ref (n0 + ob0)), .val (.int i1), .val (.int i2), .val (.int i3), .val (.int i4), .val (.ref (n0 + ob5)), .val (.int i6), .val (.int t0)] [(.int t0)])) (fun t k => ?_) ?_
    · show Steps p.tables e below (T0.setTop (mkF m 136 #[.val (.ref (n0 + ob0)), .val (.int i1), .val (.int i2), .val (.int i3), .val (.int i4), .val (.ref (n0 + ob5)), .val (.int i6), .val (.int t0)] [(.int (3 : Int32)), (.int i6)])) _
      refine XS.icmpYes X0.here hx rfl (pc0 := 136) (pc' := 161) rfl (hb hby d5_136) rfl (feq hc33).2 (by decide) (by decide) ?_
      show Steps p.tables e below (T0.setTop (mkF m 161 #[.val (.ref (n0 + ob0)), .val (.int i1), .val (.int i2), .val (.int i3), .val (.int i4), .val (.ref (n0 + ob5)), .val (.int i6), .val (.int t0)] [])) _
      refine XS.iload X0.here hx rfl (hb hby d5_161) rfl ?_
      exact k
    obtain ⟨rfl, rfl⟩ := own_inj hf
    exact Gl.outN X0 hx hlk (t := .boolean) hret (by simp) (hb hby d5_163) ⟨rfl, N0, by rw [e0]; exact O0⟩ (by show _ ≤ 1; omega) (by show _ ≤ 4; omega)
def b5_130 (D : Hp) (ob0 : Nat) (i4 : Int32) (i6 : Int32) : Option (Int32 × Hp) :=
  b5_131 D ob0 i4 i6 (0 : Int32)
set_option maxRecDepth 65536 in
set_option maxHeartbeats 40000000 in
theorem bt5_130 {p : Program} {l : Launch} {e : Env} {s : State} {m : MethodId} {args : Array Value} {below : List Frame} {meth : Method} {c : Code} {Z : State} {a0 : Array Value} {n0 : Nat} {D' : Hp} {r : Int32} {T0 : State} {locs : List Loc} {cells slots : Nat} {h0 : Heap} {D : Hp} {ob0 : Nat} {i1 : Int32} {i2 : Int32} {i3 : Int32} {i4 : Int32} {ob5 : Nat} {i6 : Int32} (hw : ∀ d ∈ tables_1, d.before a0 Z = true) (hC : Cx p s m meth c Z method_4_code 8 (some .boolean) "com/example/planar_drawing_kit/planardrawingkit/inspect/CrossingQueueRemovePinLaw" "drains") (X0 : Stand p l e ({ frames := 2, cells := 1, slots := 4, locals := 28 } : Room) s m args below meth c T0 locs cells slots) (e0 : T0.heap = h0) (O0 : Ow Kt1 Z h0 n0 D) (N0 : Fr n0 locs) (hcc : cells ≤ 1) (hss : slots ≤ 4) (hf : b5_130 D ob0 i4 i6 = some (r, D')) : Gl p e below s 1 4 (Qw Kt1 Z n0 (some (.int r)) D') (T0.setTop (mkF m 130 #[.val (.ref (n0 + ob0)), .val (.int i1), .val (.int i2), .val (.int i3), .val (.int i4), .val (.ref (n0 + ob5)), .val (.int i6), .unset] [])) := by
  obtain ⟨hx, hZ, hby, hml, hown, hnm, hret, hlk⟩ := id hC
  have hml : c.maxLocals = 8 := hml
  rw [b5_130] at hf
  refine Gl.on (B := T0.setTop (mkF m 131 #[.val (.ref (n0 + ob0)), .val (.int i1), .val (.int i2), .val (.int i3), .val (.int i4), .val (.ref (n0 + ob5)), .val (.int i6), .unset] [(.int (0 : Int32))])) (fun t k => ?_) ?_
  · show Steps p.tables e below (T0.setTop (mkF m 130 #[.val (.ref (n0 + ob0)), .val (.int i1), .val (.int i2), .val (.int i3), .val (.int i4), .val (.ref (n0 + ob5)), .val (.int i6), .unset] [])) _
    refine XS.iconst X0.here hx rfl (hb hby d5_130) ?_
    exact k
  exact bt5_131 hw hC X0 e0 O0 N0 (by omega) (by omega) hf
def b5_87 (D : Hp) (ob0 : Nat) (i4 : Int32) (ob5 : Nat) (i6 : Int32) : Option (Int32 × Hp) :=
  (ck D ob0 1).bind fun u19 => (f7 D ob0 i4).bind fun q18 => own_let q18.1 fun x20 => own_let q18.2 fun D18 =>
  (rI D18 ob5 0 (0 : Int32)).bind fun x21 =>
  if x20 = x21 then ((ck D18 ob0 1).bind fun u24 => (f7 D18 ob0 i4).bind fun q23 => own_let q23.1 fun x25 => own_let q23.2 fun D23 =>
  (rI D23 ob5 0 (1 : Int32)).bind fun x26 =>
  if x25 = x26 then ((ck D23 ob0 1).bind fun u29 => (f7 D23 ob0 i4).bind fun q28 => own_let q28.1 fun x30 => own_let q28.2 fun D28 =>
  (rI D28 ob5 0 (2 : Int32)).bind fun x31 =>
  if x30 = x31 then (b5_131 D28 ob0 i4 i6 (1 : Int32)) else (b5_130 D28 ob0 i4 i6)) else (b5_130 D23 ob0 i4 i6)) else (b5_130 D18 ob0 i4 i6)
set_option maxRecDepth 65536 in
set_option maxHeartbeats 40000000 in
theorem bt5_87 {p : Program} {l : Launch} {e : Env} {s : State} {m : MethodId} {args : Array Value} {below : List Frame} {meth : Method} {c : Code} {Z : State} {a0 : Array Value} {n0 : Nat} {D' : Hp} {r : Int32} {T0 : State} {locs : List Loc} {cells slots : Nat} {h0 : Heap} {D : Hp} {ob0 : Nat} {i1 : Int32} {i2 : Int32} {i3 : Int32} {i4 : Int32} {ob5 : Nat} {i6 : Int32} (hw : ∀ d ∈ tables_1, d.before a0 Z = true) (hC : Cx p s m meth c Z method_4_code 8 (some .boolean) "com/example/planar_drawing_kit/planardrawingkit/inspect/CrossingQueueRemovePinLaw" "drains") (X0 : Stand p l e ({ frames := 2, cells := 1, slots := 4, locals := 28 } : Room) s m args below meth c T0 locs cells slots) (e0 : T0.heap = h0) (O0 : Ow Kt1 Z h0 n0 D) (N0 : Fr n0 locs) (hcc : cells ≤ 1) (hss : slots ≤ 4) (hf : b5_87 D ob0 i4 ob5 i6 = some (r, D')) : Gl p e below s 1 4 (Qw Kt1 Z n0 (some (.int r)) D') (T0.setTop (mkF m 87 #[.val (.ref (n0 + ob0)), .val (.int i1), .val (.int i2), .val (.int i3), .val (.int i4), .val (.ref (n0 + ob5)), .val (.int i6), .unset] [])) := by
  obtain ⟨hx, hZ, hby, hml, hown, hnm, hret, hlk⟩ := id hC
  have hml : c.maxLocals = 8 := hml
  rw [b5_87] at hf
  obtain ⟨u19, hk18, hf⟩ := own_bind hf
  obtain ⟨⟨x20, D18⟩, hq18, hf⟩ := own_bind hf
  obtain ⟨_, rfl, hf⟩ := own_letE hf
  obtain ⟨_, rfl, hf⟩ := own_letE hf
  obtain ⟨T18, h18, L18, X18, e18, O18, N18, st18⟩ := callVW X0 hx hZ (y := (⟨"com/example/planar_drawing_kit/planardrawingkit/inspect/CrossingQueue", "poll", "(I)I"⟩ : MethodName)) hown (hw _ (List.mem_of_getElem? (i := 35) rfl)) (hw _ (List.mem_of_getElem? (i := 36) rfl)) (hw _ (List.mem_of_getElem? (i := 38) rfl)) (hw _ (List.mem_of_getElem? (i := 37) rfl)) (hw _ (List.mem_of_getElem? (i := 2) rfl)) (hw _ (List.mem_of_getElem? (i := 39) rfl)) (by decide) e0 O0 N0 hk18 rfl (as' := [(.int i4)]) (ct7 hw hq18) (W := 0) (kc := 0) (ks := 0) rfl rfl (by decide) (by decide) (g := (mkF m 90 #[.val (.ref (n0 + ob0)), .val (.int i1), .val (.int i2), .val (.int i3), .val (.int i4), .val (.ref (n0 + ob5)), .val (.int i6), .unset] [(.int i4), (.ref (n0 + ob0))])) rfl (by rw [hml]; rfl) (rest := []) (lenOf pd_3 rfl) rfl (by show 2 * 0 + _ ≤ _; exact Nat.le_of_eq rfl) (hb hby d5_90) (by show _ + 0 ≤ 1; omega) (by show _ + 0 ≤ 4; omega)
  obtain ⟨x21, hx21, hf⟩ := own_bind hf
  refine Gl.on (B := T18.setTop (mkF m 97 #[.val (.ref (n0 + ob0)), .val (.int i1), .val (.int i2), .val (.int i3), .val (.int i4), .val (.ref (n0 + ob5)), .val (.int i6), .unset] [(.int x21), (.int x20)])) (fun t k => ?_) ?_
  · show Steps p.tables e below (T0.setTop (mkF m 87 #[.val (.ref (n0 + ob0)), .val (.int i1), .val (.int i2), .val (.int i3), .val (.int i4), .val (.ref (n0 + ob5)), .val (.int i6), .unset] [])) _
    refine XS.aloadN X0.here hx rfl (hb hby d5_87) rfl rfl ?_
    show Steps p.tables e below (T0.setTop (mkF m 88 #[.val (.ref (n0 + ob0)), .val (.int i1), .val (.int i2), .val (.int i3), .val (.int i4), .val (.ref (n0 + ob5)), .val (.int i6), .unset] [(.ref (n0 + ob0))])) _
    refine XS.iload X0.here hx rfl (hb hby d5_88) rfl ?_
    show Steps p.tables e below (T0.setTop (mkF m 90 #[.val (.ref (n0 + ob0)), .val (.int i1), .val (.int i2), .val (.int i3), .val (.int i4), .val (.ref (n0 + ob5)), .val (.int i6), .unset] [(.int i4), (.ref (n0 + ob0))])) _
    refine st18 _ ?_
    show Steps p.tables e below (T18.setTop (mkF m 93 #[.val (.ref (n0 + ob0)), .val (.int i1), .val (.int i2), .val (.int i3), .val (.int i4), .val (.ref (n0 + ob5)), .val (.int i6), .unset] [(.int x20)])) _
    refine XS.aload X18.here hx rfl (hb hby d5_93) rfl rfl ?_
    show Steps p.tables e below (T18.setTop (mkF m 95 #[.val (.ref (n0 + ob0)), .val (.int i1), .val (.int i2), .val (.int i3), .val (.int i4), .val (.ref (n0 + ob5)), .val (.int i6), .unset] [(.ref (n0 + ob5)), (.int x20)])) _
    refine XS.iconst X18.here hx rfl (hb hby d5_95) ?_
    show Steps p.tables e below (T18.setTop (mkF m 96 #[.val (.ref (n0 + ob0)), .val (.int i1), .val (.int i2), .val (.int i3), .val (.int i4), .val (.ref (n0 + ob5)), .val (.int i6), .unset] [(.int (0 : Int32)), (.ref (n0 + ob5)), (.int x20)])) _
    refine ldW X18 hx hZ e18 O18 hx21 rfl (g := (mkF m 96 #[.val (.ref (n0 + ob0)), .val (.int i1), .val (.int i2), .val (.int i3), .val (.int i4), .val (.ref (n0 + ob5)), .val (.int i6), .unset] [(.int (0 : Int32)), (.ref (n0 + ob5)), (.int x20)])) rfl rfl (hb hby d5_96) _ ?_
    exact k
  by_cases hc22 : x20 = x21
  · rw [if_pos hc22] at hf
    obtain ⟨u24, hk23, hf⟩ := own_bind hf
    obtain ⟨⟨x25, D23⟩, hq23, hf⟩ := own_bind hf
    obtain ⟨_, rfl, hf⟩ := own_letE hf
    obtain ⟨_, rfl, hf⟩ := own_letE hf
    obtain ⟨T23, h23, L23, X23, e23, O23, N23, st23⟩ := callVW X18 hx hZ (y := (⟨"com/example/planar_drawing_kit/planardrawingkit/inspect/CrossingQueue", "poll", "(I)I"⟩ : MethodName)) hown (hw _ (List.mem_of_getElem? (i := 35) rfl)) (hw _ (List.mem_of_getElem? (i := 36) rfl)) (hw _ (List.mem_of_getElem? (i := 38) rfl)) (hw _ (List.mem_of_getElem? (i := 37) rfl)) (hw _ (List.mem_of_getElem? (i := 2) rfl)) (hw _ (List.mem_of_getElem? (i := 39) rfl)) (by decide) e18 O18 N18 hk23 rfl (as' := [(.int i4)]) (ct7 hw hq23) (W := 0) (kc := 0) (ks := 0) rfl rfl (by decide) (by decide) (g := (mkF m 103 #[.val (.ref (n0 + ob0)), .val (.int i1), .val (.int i2), .val (.int i3), .val (.int i4), .val (.ref (n0 + ob5)), .val (.int i6), .unset] [(.int i4), (.ref (n0 + ob0))])) rfl (by rw [hml]; rfl) (rest := []) (lenOf pd_3 rfl) rfl (by show 2 * 0 + _ ≤ _; exact Nat.le_of_eq rfl) (hb hby d5_103) (by show _ + 0 ≤ 1; omega) (by show _ + 0 ≤ 4; omega)
    obtain ⟨x26, hx26, hf⟩ := own_bind hf
    refine Gl.on (B := T23.setTop (mkF m 110 #[.val (.ref (n0 + ob0)), .val (.int i1), .val (.int i2), .val (.int i3), .val (.int i4), .val (.ref (n0 + ob5)), .val (.int i6), .unset] [(.int x26), (.int x25)])) (fun t k => ?_) ?_
    · show Steps p.tables e below (T18.setTop (mkF m 97 #[.val (.ref (n0 + ob0)), .val (.int i1), .val (.int i2), .val (.int i3), .val (.int i4), .val (.ref (n0 + ob5)), .val (.int i6), .unset] [(.int x21), (.int x20)])) _
      refine XS.icmpNo X18.here hx rfl (hb hby d5_97) rfl (teq hc22).2 ?_
      show Steps p.tables e below (T18.setTop (mkF m 100 #[.val (.ref (n0 + ob0)), .val (.int i1), .val (.int i2), .val (.int i3), .val (.int i4), .val (.ref (n0 + ob5)), .val (.int i6), .unset] [])) _
      refine XS.aloadN X18.here hx rfl (hb hby d5_100) rfl rfl ?_
      show Steps p.tables e below (T18.setTop (mkF m 101 #[.val (.ref (n0 + ob0)), .val (.int i1), .val (.int i2), .val (.int i3), .val (.int i4), .val (.ref (n0 + ob5)), .val (.int i6), .unset] [(.ref (n0 + ob0))])) _
      refine XS.iload X18.here hx rfl (hb hby d5_101) rfl ?_
      show Steps p.tables e below (T18.setTop (mkF m 103 #[.val (.ref (n0 + ob0)), .val (.int i1), .val (.int i2), .val (.int i3), .val (.int i4), .val (.ref (n0 + ob5)), .val (.int i6), .unset] [(.int i4), (.ref (n0 + ob0))])) _
      refine st23 _ ?_
      show Steps p.tables e below (T23.setTop (mkF m 106 #[.val (.ref (n0 + ob0)), .val (.int i1), .val (.int i2), .val (.int i3), .val (.int i4), .val (.ref (n0 + ob5)), .val (.int i6), .unset] [(.int x25)])) _
      refine XS.aload X23.here hx rfl (hb hby d5_106) rfl rfl ?_
      show Steps p.tables e below (T23.setTop (mkF m 108 #[.val (.ref (n0 + ob0)), .val (.int i1), .val (.int i2), .val (.int i3), .val (.int i4), .val (.ref (n0 + ob5)), .val (.int i6), .unset] [(.ref (n0 + ob5)), (.int x25)])) _
      refine XS.iconst X23.here hx rfl (hb hby d5_108) ?_
      show Steps p.tables e below (T23.setTop (mkF m 109 #[.val (.ref (n0 + ob0)), .val (.int i1), .val (.int i2), .val (.int i3), .val (.int i4), .val (.ref (n0 + ob5)), .val (.int i6), .unset] [(.int (1 : Int32)), (.ref (n0 + ob5)), (.int x25)])) _
      refine ldW X23 hx hZ e23 O23 hx26 rfl (g := (mkF m 109 #[.val (.ref (n0 + ob0)), .val (.int i1), .val (.int i2), .val (.int i3), .val (.int i4), .val (.ref (n0 + ob5)), .val (.int i6), .unset] [(.int (1 : Int32)), (.ref (n0 + ob5)), (.int x25)])) rfl rfl (hb hby d5_109) _ ?_
      exact k
    by_cases hc27 : x25 = x26
    · rw [if_pos hc27] at hf
      obtain ⟨u29, hk28, hf⟩ := own_bind hf
      obtain ⟨⟨x30, D28⟩, hq28, hf⟩ := own_bind hf
      obtain ⟨_, rfl, hf⟩ := own_letE hf
      obtain ⟨_, rfl, hf⟩ := own_letE hf
      obtain ⟨T28, h28, L28, X28, e28, O28, N28, st28⟩ := callVW X23 hx hZ (y := (⟨"com/example/planar_drawing_kit/planardrawingkit/inspect/CrossingQueue", "poll", "(I)I"⟩ : MethodName)) hown (hw _ (List.mem_of_getElem? (i := 35) rfl)) (hw _ (List.mem_of_getElem? (i := 36) rfl)) (hw _ (List.mem_of_getElem? (i := 38) rfl)) (hw _ (List.mem_of_getElem? (i := 37) rfl)) (hw _ (List.mem_of_getElem? (i := 2) rfl)) (hw _ (List.mem_of_getElem? (i := 39) rfl)) (by decide) e23 O23 N23 hk28 rfl (as' := [(.int i4)]) (ct7 hw hq28) (W := 0) (kc := 0) (ks := 0) rfl rfl (by decide) (by decide) (g := (mkF m 116 #[.val (.ref (n0 + ob0)), .val (.int i1), .val (.int i2), .val (.int i3), .val (.int i4), .val (.ref (n0 + ob5)), .val (.int i6), .unset] [(.int i4), (.ref (n0 + ob0))])) rfl (by rw [hml]; rfl) (rest := []) (lenOf pd_3 rfl) rfl (by show 2 * 0 + _ ≤ _; exact Nat.le_of_eq rfl) (hb hby d5_116) (by show _ + 0 ≤ 1; omega) (by show _ + 0 ≤ 4; omega)
      obtain ⟨x31, hx31, hf⟩ := own_bind hf
      refine Gl.on (B := T28.setTop (mkF m 123 #[.val (.ref (n0 + ob0)), .val (.int i1), .val (.int i2), .val (.int i3), .val (.int i4), .val (.ref (n0 + ob5)), .val (.int i6), .unset] [(.int x31), (.int x30)])) (fun t k => ?_) ?_
      · show Steps p.tables e below (T23.setTop (mkF m 110 #[.val (.ref (n0 + ob0)), .val (.int i1), .val (.int i2), .val (.int i3), .val (.int i4), .val (.ref (n0 + ob5)), .val (.int i6), .unset] [(.int x26), (.int x25)])) _
        refine XS.icmpNo X23.here hx rfl (hb hby d5_110) rfl (teq hc27).2 ?_
        show Steps p.tables e below (T23.setTop (mkF m 113 #[.val (.ref (n0 + ob0)), .val (.int i1), .val (.int i2), .val (.int i3), .val (.int i4), .val (.ref (n0 + ob5)), .val (.int i6), .unset] [])) _
        refine XS.aloadN X23.here hx rfl (hb hby d5_113) rfl rfl ?_
        show Steps p.tables e below (T23.setTop (mkF m 114 #[.val (.ref (n0 + ob0)), .val (.int i1), .val (.int i2), .val (.int i3), .val (.int i4), .val (.ref (n0 + ob5)), .val (.int i6), .unset] [(.ref (n0 + ob0))])) _
        refine XS.iload X23.here hx rfl (hb hby d5_114) rfl ?_
        show Steps p.tables e below (T23.setTop (mkF m 116 #[.val (.ref (n0 + ob0)), .val (.int i1), .val (.int i2), .val (.int i3), .val (.int i4), .val (.ref (n0 + ob5)), .val (.int i6), .unset] [(.int i4), (.ref (n0 + ob0))])) _
        refine st28 _ ?_
        show Steps p.tables e below (T28.setTop (mkF m 119 #[.val (.ref (n0 + ob0)), .val (.int i1), .val (.int i2), .val (.int i3), .val (.int i4), .val (.ref (n0 + ob5)), .val (.int i6), .unset] [(.int x30)])) _
        refine XS.aload X28.here hx rfl (hb hby d5_119) rfl rfl ?_
        show Steps p.tables e below (T28.setTop (mkF m 121 #[.val (.ref (n0 + ob0)), .val (.int i1), .val (.int i2), .val (.int i3), .val (.int i4), .val (.ref (n0 + ob5)), .val (.int i6), .unset] [(.ref (n0 + ob5)), (.int x30)])) _
        refine XS.iconst X28.here hx rfl (hb hby d5_121) ?_
        show Steps p.tables e below (T28.setTop (mkF m 122 #[.val (.ref (n0 + ob0)), .val (.int i1), .val (.int i2), .val (.int i3), .val (.int i4), .val (.ref (n0 + ob5)), .val (.int i6), .unset] [(.int (2 : Int32)), (.ref (n0 + ob5)), (.int x30)])) _
        refine ldW X28 hx hZ e28 O28 hx31 rfl (g := (mkF m 122 #[.val (.ref (n0 + ob0)), .val (.int i1), .val (.int i2), .val (.int i3), .val (.int i4), .val (.ref (n0 + ob5)), .val (.int i6), .unset] [(.int (2 : Int32)), (.ref (n0 + ob5)), (.int x30)])) rfl rfl (hb hby d5_122) _ ?_
        exact k
      by_cases hc32 : x30 = x31
      · rw [if_pos hc32] at hf
        refine Gl.on (B := T28.setTop (mkF m 131 #[.val (.ref (n0 + ob0)), .val (.int i1), .val (.int i2), .val (.int i3), .val (.int i4), .val (.ref (n0 + ob5)), .val (.int i6), .unset] [(.int (1 : Int32))])) (fun t k => ?_) ?_
        · show Steps p.tables e below (T28.setTop (mkF m 123 #[.val (.ref (n0 + ob0)), .val (.int i1), .val (.int i2), .val (.int i3), .val (.int i4), .val (.ref (n0 + ob5)), .val (.int i6), .unset] [(.int x31), (.int x30)])) _
          refine XS.icmpNo X28.here hx rfl (hb hby d5_123) rfl (teq hc32).2 ?_
          show Steps p.tables e below (T28.setTop (mkF m 126 #[.val (.ref (n0 + ob0)), .val (.int i1), .val (.int i2), .val (.int i3), .val (.int i4), .val (.ref (n0 + ob5)), .val (.int i6), .unset] [])) _
          refine XS.iconst X28.here hx rfl (hb hby d5_126) ?_
          show Steps p.tables e below (T28.setTop (mkF m 127 #[.val (.ref (n0 + ob0)), .val (.int i1), .val (.int i2), .val (.int i3), .val (.int i4), .val (.ref (n0 + ob5)), .val (.int i6), .unset] [(.int (1 : Int32))])) _
          refine XS.goto X28.here hx rfl (pc0 := 127) (pc' := 131) rfl (hb hby d5_127) (by decide) (by decide) ?_
          exact k
        exact bt5_131 hw hC X28 e28 O28 N28 (by omega) (by omega) hf
      · rw [if_neg hc32] at hf
        refine Gl.on (B := T28.setTop (mkF m 130 #[.val (.ref (n0 + ob0)), .val (.int i1), .val (.int i2), .val (.int i3), .val (.int i4), .val (.ref (n0 + ob5)), .val (.int i6), .unset] [])) (fun t k => ?_) ?_
        · show Steps p.tables e below (T28.setTop (mkF m 123 #[.val (.ref (n0 + ob0)), .val (.int i1), .val (.int i2), .val (.int i3), .val (.int i4), .val (.ref (n0 + ob5)), .val (.int i6), .unset] [(.int x31), (.int x30)])) _
          refine XS.icmpYes X28.here hx rfl (pc0 := 123) (pc' := 130) rfl (hb hby d5_123) rfl (feq hc32).2 (by decide) (by decide) ?_
          exact k
        exact bt5_130 hw hC X28 e28 O28 N28 (by omega) (by omega) hf
    · rw [if_neg hc27] at hf
      refine Gl.on (B := T23.setTop (mkF m 130 #[.val (.ref (n0 + ob0)), .val (.int i1), .val (.int i2), .val (.int i3), .val (.int i4), .val (.ref (n0 + ob5)), .val (.int i6), .unset] [])) (fun t k => ?_) ?_
      · show Steps p.tables e below (T23.setTop (mkF m 110 #[.val (.ref (n0 + ob0)), .val (.int i1), .val (.int i2), .val (.int i3), .val (.int i4), .val (.ref (n0 + ob5)), .val (.int i6), .unset] [(.int x26), (.int x25)])) _
        refine XS.icmpYes X23.here hx rfl (pc0 := 110) (pc' := 130) rfl (hb hby d5_110) rfl (feq hc27).2 (by decide) (by decide) ?_
        exact k
      exact bt5_130 hw hC X23 e23 O23 N23 (by omega) (by omega) hf
  · rw [if_neg hc22] at hf
    refine Gl.on (B := T18.setTop (mkF m 130 #[.val (.ref (n0 + ob0)), .val (.int i1), .val (.int i2), .val (.int i3), .val (.int i4), .val (.ref (n0 + ob5)), .val (.int i6), .unset] [])) (fun t k => ?_) ?_
    · show Steps p.tables e below (T18.setTop (mkF m 97 #[.val (.ref (n0 + ob0)), .val (.int i1), .val (.int i2), .val (.int i3), .val (.int i4), .val (.ref (n0 + ob5)), .val (.int i6), .unset] [(.int x21), (.int x20)])) _
      refine XS.icmpYes X18.here hx rfl (pc0 := 97) (pc' := 130) rfl (hb hby d5_97) rfl (feq hc22).2 (by decide) (by decide) ?_
      exact k
    exact bt5_130 hw hC X18 e18 O18 N18 (by omega) (by omega) hf
def b5_66 (D : Hp) (ob0 : Nat) (i1 : Int32) (i2 : Int32) (i3 : Int32) (i4 : Int32) (ob5 : Nat) (i6 : Int32) : Option (Int32 × Hp) :=
  (f6 D i1 i2 i3 (0 : Int32) i4).bind fun q14 => own_let q14.1 fun x15 => own_let q14.2 fun D14 =>
  if x15 = (0 : Int32) then (b5_87 D14 ob0 i4 ob5 i6) else ((wV D14 ob5 0 i6 (.int (0 : Int32))).bind fun D17 =>
  b5_87 D17 ob0 i4 ob5 (i6 + (1 : Int32)))
set_option maxRecDepth 65536 in
set_option maxHeartbeats 40000000 in
theorem bt5_66 {p : Program} {l : Launch} {e : Env} {s : State} {m : MethodId} {args : Array Value} {below : List Frame} {meth : Method} {c : Code} {Z : State} {a0 : Array Value} {n0 : Nat} {D' : Hp} {r : Int32} {T0 : State} {locs : List Loc} {cells slots : Nat} {h0 : Heap} {D : Hp} {ob0 : Nat} {i1 : Int32} {i2 : Int32} {i3 : Int32} {i4 : Int32} {ob5 : Nat} {i6 : Int32} (hw : ∀ d ∈ tables_1, d.before a0 Z = true) (hC : Cx p s m meth c Z method_4_code 8 (some .boolean) "com/example/planar_drawing_kit/planardrawingkit/inspect/CrossingQueueRemovePinLaw" "drains") (X0 : Stand p l e ({ frames := 2, cells := 1, slots := 4, locals := 28 } : Room) s m args below meth c T0 locs cells slots) (e0 : T0.heap = h0) (O0 : Ow Kt1 Z h0 n0 D) (N0 : Fr n0 locs) (hcc : cells ≤ 1) (hss : slots ≤ 4) (hf : b5_66 D ob0 i1 i2 i3 i4 ob5 i6 = some (r, D')) : Gl p e below s 1 4 (Qw Kt1 Z n0 (some (.int r)) D') (T0.setTop (mkF m 66 #[.val (.ref (n0 + ob0)), .val (.int i1), .val (.int i2), .val (.int i3), .val (.int i4), .val (.ref (n0 + ob5)), .val (.int i6), .unset] [])) := by
  obtain ⟨hx, hZ, hby, hml, hown, hnm, hret, hlk⟩ := id hC
  have hml : c.maxLocals = 8 := hml
  rw [b5_66] at hf
  obtain ⟨⟨x15, D14⟩, hq14, hf⟩ := own_bind hf
  obtain ⟨_, rfl, hf⟩ := own_letE hf
  obtain ⟨_, rfl, hf⟩ := own_letE hf
  obtain ⟨T14, h14, L14, X14, e14, O14, N14, st14⟩ := callSW X0 hx hZ (y := (⟨"com/example/planar_drawing_kit/planardrawingkit/inspect/CrossingQueueRemovePinLaw", "stays", "(IIIII)Z"⟩ : MethodName)) hown (hw _ (List.mem_of_getElem? (i := 32) rfl)) (hw _ (List.mem_of_getElem? (i := 33) rfl)) (hw _ (List.mem_of_getElem? (i := 30) rfl)) (hw _ (List.mem_of_getElem? (i := 34) rfl)) (by decide) e0 O0 N0 (as' := [(.int i1), (.int i2), (.int i3), (.int (0 : Int32)), (.int i4)]) (ct6 hw hq14) (W := 0) (kc := 0) (ks := 0) rfl rfl (by decide) (by decide) (g := (mkF m 72 #[.val (.ref (n0 + ob0)), .val (.int i1), .val (.int i2), .val (.int i3), .val (.int i4), .val (.ref (n0 + ob5)), .val (.int i6), .unset] [(.int i4), (.int (0 : Int32)), (.int i3), (.int i2), (.int i1)])) rfl (by rw [hml]; rfl) (rest := []) (lenOf pd_2 rfl) rfl (by show 2 * 0 + _ ≤ _; exact Nat.le_of_eq rfl) (hb hby d5_72) (by show _ + 0 ≤ 1; omega) (by show _ + 0 ≤ 4; omega)
  refine Gl.on (B := T14.setTop (mkF m 75 #[.val (.ref (n0 + ob0)), .val (.int i1), .val (.int i2), .val (.int i3), .val (.int i4), .val (.ref (n0 + ob5)), .val (.int i6), .unset] [(.int x15)])) (fun t k => ?_) ?_
  · show Steps p.tables e below (T0.setTop (mkF m 66 #[.val (.ref (n0 + ob0)), .val (.int i1), .val (.int i2), .val (.int i3), .val (.int i4), .val (.ref (n0 + ob5)), .val (.int i6), .unset] [])) _
    refine XS.iloadN X0.here hx rfl (hb hby d5_66) rfl ?_
    show Steps p.tables e below (T0.setTop (mkF m 67 #[.val (.ref (n0 + ob0)), .val (.int i1), .val (.int i2), .val (.int i3), .val (.int i4), .val (.ref (n0 + ob5)), .val (.int i6), .unset] [(.int i1)])) _
    refine XS.iloadN X0.here hx rfl (hb hby d5_67) rfl ?_
    show Steps p.tables e below (T0.setTop (mkF m 68 #[.val (.ref (n0 + ob0)), .val (.int i1), .val (.int i2), .val (.int i3), .val (.int i4), .val (.ref (n0 + ob5)), .val (.int i6), .unset] [(.int i2), (.int i1)])) _
    refine XS.iloadN X0.here hx rfl (hb hby d5_68) rfl ?_
    show Steps p.tables e below (T0.setTop (mkF m 69 #[.val (.ref (n0 + ob0)), .val (.int i1), .val (.int i2), .val (.int i3), .val (.int i4), .val (.ref (n0 + ob5)), .val (.int i6), .unset] [(.int i3), (.int i2), (.int i1)])) _
    refine XS.iconst X0.here hx rfl (hb hby d5_69) ?_
    show Steps p.tables e below (T0.setTop (mkF m 70 #[.val (.ref (n0 + ob0)), .val (.int i1), .val (.int i2), .val (.int i3), .val (.int i4), .val (.ref (n0 + ob5)), .val (.int i6), .unset] [(.int (0 : Int32)), (.int i3), (.int i2), (.int i1)])) _
    refine XS.iload X0.here hx rfl (hb hby d5_70) rfl ?_
    show Steps p.tables e below (T0.setTop (mkF m 72 #[.val (.ref (n0 + ob0)), .val (.int i1), .val (.int i2), .val (.int i3), .val (.int i4), .val (.ref (n0 + ob5)), .val (.int i6), .unset] [(.int i4), (.int (0 : Int32)), (.int i3), (.int i2), (.int i1)])) _
    refine st14 _ ?_
    exact k
  by_cases hc16 : x15 = (0 : Int32)
  · rw [if_pos hc16] at hf
    refine Gl.on (B := T14.setTop (mkF m 87 #[.val (.ref (n0 + ob0)), .val (.int i1), .val (.int i2), .val (.int i3), .val (.int i4), .val (.ref (n0 + ob5)), .val (.int i6), .unset] [])) (fun t k => ?_) ?_
    · show Steps p.tables e below (T14.setTop (mkF m 75 #[.val (.ref (n0 + ob0)), .val (.int i1), .val (.int i2), .val (.int i3), .val (.int i4), .val (.ref (n0 + ob5)), .val (.int i6), .unset] [(.int x15)])) _
      refine XS.ifYes X14.here hx rfl (pc0 := 75) (pc' := 87) rfl (hb hby d5_75) rfl ((if0 _ _).trans (teq hc16).1) (by decide) (by decide) ?_
      exact k
    exact bt5_87 hw hC X14 e14 O14 N14 (by omega) (by omega) hf
  · rw [if_neg hc16] at hf
    obtain ⟨D17, hq17, hf⟩ := own_bind hf
    obtain ⟨T17, h17, L17, X17, e17, O17, N17, st17⟩ := stIW X14 hx hZ e14 O14 N14 hq17 rfl (g := (mkF m 83 #[.val (.ref (n0 + ob0)), .val (.int i1), .val (.int i2), .val (.int i3), .val (.int i4), .val (.ref (n0 + ob5)), .val (.int i6), .unset] [(.int (0 : Int32)), (.int i6), (.ref (n0 + ob5))])) rfl rfl (hb hby d5_83)
    refine Gl.on (B := T17.setTop (mkF m 87 #[.val (.ref (n0 + ob0)), .val (.int i1), .val (.int i2), .val (.int i3), .val (.int i4), .val (.ref (n0 + ob5)), .val (.int (i6 + (1 : Int32))), .unset] [])) (fun t k => ?_) ?_
    · show Steps p.tables e below (T14.setTop (mkF m 75 #[.val (.ref (n0 + ob0)), .val (.int i1), .val (.int i2), .val (.int i3), .val (.int i4), .val (.ref (n0 + ob5)), .val (.int i6), .unset] [(.int x15)])) _
      refine XS.ifNo X14.here hx rfl (hb hby d5_75) rfl ((if0 _ _).trans (feq hc16).1) ?_
      show Steps p.tables e below (T14.setTop (mkF m 78 #[.val (.ref (n0 + ob0)), .val (.int i1), .val (.int i2), .val (.int i3), .val (.int i4), .val (.ref (n0 + ob5)), .val (.int i6), .unset] [])) _
      refine XS.aload X14.here hx rfl (hb hby d5_78) rfl rfl ?_
      show Steps p.tables e below (T14.setTop (mkF m 80 #[.val (.ref (n0 + ob0)), .val (.int i1), .val (.int i2), .val (.int i3), .val (.int i4), .val (.ref (n0 + ob5)), .val (.int i6), .unset] [(.ref (n0 + ob5))])) _
      refine XS.iload X14.here hx rfl (hb hby d5_80) rfl ?_
      show Steps p.tables e below (T14.setTop (mkF m 82 #[.val (.ref (n0 + ob0)), .val (.int i1), .val (.int i2), .val (.int i3), .val (.int i4), .val (.ref (n0 + ob5)), .val (.int i6), .unset] [(.int i6), (.ref (n0 + ob5))])) _
      refine XS.iconst X14.here hx rfl (hb hby d5_82) ?_
      show Steps p.tables e below (T14.setTop (mkF m 83 #[.val (.ref (n0 + ob0)), .val (.int i1), .val (.int i2), .val (.int i3), .val (.int i4), .val (.ref (n0 + ob5)), .val (.int i6), .unset] [(.int (0 : Int32)), (.int i6), (.ref (n0 + ob5))])) _
      refine st17 _ ?_
      show Steps p.tables e below (T17.setTop (mkF m 84 #[.val (.ref (n0 + ob0)), .val (.int i1), .val (.int i2), .val (.int i3), .val (.int i4), .val (.ref (n0 + ob5)), .val (.int i6), .unset] [])) _
      refine XS.iinc X17.here hx rfl (hb hby d5_84) rfl (l' := #[.val (.ref (n0 + ob0)), .val (.int i1), .val (.int i2), .val (.int i3), .val (.int i4), .val (.ref (n0 + ob5)), .val (.int (i6 + (1 : Int32))), .unset]) rfl ?_
      exact k
    exact bt5_87 hw hC X17 e17 O17 N17 (by omega) (by omega) hf
def b5_45 (D : Hp) (ob0 : Nat) (i1 : Int32) (i2 : Int32) (i3 : Int32) (i4 : Int32) (ob5 : Nat) (i6 : Int32) : Option (Int32 × Hp) :=
  (f6 D i1 i2 i3 (1 : Int32) i4).bind fun q10 => own_let q10.1 fun x11 => own_let q10.2 fun D10 =>
  if x11 = (0 : Int32) then (b5_66 D10 ob0 i1 i2 i3 i4 ob5 i6) else ((wV D10 ob5 0 i6 (.int (1 : Int32))).bind fun D13 =>
  b5_66 D13 ob0 i1 i2 i3 i4 ob5 (i6 + (1 : Int32)))
set_option maxRecDepth 65536 in
set_option maxHeartbeats 40000000 in
theorem bt5_45 {p : Program} {l : Launch} {e : Env} {s : State} {m : MethodId} {args : Array Value} {below : List Frame} {meth : Method} {c : Code} {Z : State} {a0 : Array Value} {n0 : Nat} {D' : Hp} {r : Int32} {T0 : State} {locs : List Loc} {cells slots : Nat} {h0 : Heap} {D : Hp} {ob0 : Nat} {i1 : Int32} {i2 : Int32} {i3 : Int32} {i4 : Int32} {ob5 : Nat} {i6 : Int32} (hw : ∀ d ∈ tables_1, d.before a0 Z = true) (hC : Cx p s m meth c Z method_4_code 8 (some .boolean) "com/example/planar_drawing_kit/planardrawingkit/inspect/CrossingQueueRemovePinLaw" "drains") (X0 : Stand p l e ({ frames := 2, cells := 1, slots := 4, locals := 28 } : Room) s m args below meth c T0 locs cells slots) (e0 : T0.heap = h0) (O0 : Ow Kt1 Z h0 n0 D) (N0 : Fr n0 locs) (hcc : cells ≤ 1) (hss : slots ≤ 4) (hf : b5_45 D ob0 i1 i2 i3 i4 ob5 i6 = some (r, D')) : Gl p e below s 1 4 (Qw Kt1 Z n0 (some (.int r)) D') (T0.setTop (mkF m 45 #[.val (.ref (n0 + ob0)), .val (.int i1), .val (.int i2), .val (.int i3), .val (.int i4), .val (.ref (n0 + ob5)), .val (.int i6), .unset] [])) := by
  obtain ⟨hx, hZ, hby, hml, hown, hnm, hret, hlk⟩ := id hC
  have hml : c.maxLocals = 8 := hml
  rw [b5_45] at hf
  obtain ⟨⟨x11, D10⟩, hq10, hf⟩ := own_bind hf
  obtain ⟨_, rfl, hf⟩ := own_letE hf
  obtain ⟨_, rfl, hf⟩ := own_letE hf
  obtain ⟨T10, h10, L10, X10, e10, O10, N10, st10⟩ := callSW X0 hx hZ (y := (⟨"com/example/planar_drawing_kit/planardrawingkit/inspect/CrossingQueueRemovePinLaw", "stays", "(IIIII)Z"⟩ : MethodName)) hown (hw _ (List.mem_of_getElem? (i := 32) rfl)) (hw _ (List.mem_of_getElem? (i := 33) rfl)) (hw _ (List.mem_of_getElem? (i := 30) rfl)) (hw _ (List.mem_of_getElem? (i := 34) rfl)) (by decide) e0 O0 N0 (as' := [(.int i1), (.int i2), (.int i3), (.int (1 : Int32)), (.int i4)]) (ct6 hw hq10) (W := 0) (kc := 0) (ks := 0) rfl rfl (by decide) (by decide) (g := (mkF m 51 #[.val (.ref (n0 + ob0)), .val (.int i1), .val (.int i2), .val (.int i3), .val (.int i4), .val (.ref (n0 + ob5)), .val (.int i6), .unset] [(.int i4), (.int (1 : Int32)), (.int i3), (.int i2), (.int i1)])) rfl (by rw [hml]; rfl) (rest := []) (lenOf pd_2 rfl) rfl (by show 2 * 0 + _ ≤ _; exact Nat.le_of_eq rfl) (hb hby d5_51) (by show _ + 0 ≤ 1; omega) (by show _ + 0 ≤ 4; omega)
  refine Gl.on (B := T10.setTop (mkF m 54 #[.val (.ref (n0 + ob0)), .val (.int i1), .val (.int i2), .val (.int i3), .val (.int i4), .val (.ref (n0 + ob5)), .val (.int i6), .unset] [(.int x11)])) (fun t k => ?_) ?_
  · show Steps p.tables e below (T0.setTop (mkF m 45 #[.val (.ref (n0 + ob0)), .val (.int i1), .val (.int i2), .val (.int i3), .val (.int i4), .val (.ref (n0 + ob5)), .val (.int i6), .unset] [])) _
    refine XS.iloadN X0.here hx rfl (hb hby d5_45) rfl ?_
    show Steps p.tables e below (T0.setTop (mkF m 46 #[.val (.ref (n0 + ob0)), .val (.int i1), .val (.int i2), .val (.int i3), .val (.int i4), .val (.ref (n0 + ob5)), .val (.int i6), .unset] [(.int i1)])) _
    refine XS.iloadN X0.here hx rfl (hb hby d5_46) rfl ?_
    show Steps p.tables e below (T0.setTop (mkF m 47 #[.val (.ref (n0 + ob0)), .val (.int i1), .val (.int i2), .val (.int i3), .val (.int i4), .val (.ref (n0 + ob5)), .val (.int i6), .unset] [(.int i2), (.int i1)])) _
    refine XS.iloadN X0.here hx rfl (hb hby d5_47) rfl ?_
    show Steps p.tables e below (T0.setTop (mkF m 48 #[.val (.ref (n0 + ob0)), .val (.int i1), .val (.int i2), .val (.int i3), .val (.int i4), .val (.ref (n0 + ob5)), .val (.int i6), .unset] [(.int i3), (.int i2), (.int i1)])) _
    refine XS.iconst X0.here hx rfl (hb hby d5_48) ?_
    show Steps p.tables e below (T0.setTop (mkF m 49 #[.val (.ref (n0 + ob0)), .val (.int i1), .val (.int i2), .val (.int i3), .val (.int i4), .val (.ref (n0 + ob5)), .val (.int i6), .unset] [(.int (1 : Int32)), (.int i3), (.int i2), (.int i1)])) _
    refine XS.iload X0.here hx rfl (hb hby d5_49) rfl ?_
    show Steps p.tables e below (T0.setTop (mkF m 51 #[.val (.ref (n0 + ob0)), .val (.int i1), .val (.int i2), .val (.int i3), .val (.int i4), .val (.ref (n0 + ob5)), .val (.int i6), .unset] [(.int i4), (.int (1 : Int32)), (.int i3), (.int i2), (.int i1)])) _
    refine st10 _ ?_
    exact k
  by_cases hc12 : x11 = (0 : Int32)
  · rw [if_pos hc12] at hf
    refine Gl.on (B := T10.setTop (mkF m 66 #[.val (.ref (n0 + ob0)), .val (.int i1), .val (.int i2), .val (.int i3), .val (.int i4), .val (.ref (n0 + ob5)), .val (.int i6), .unset] [])) (fun t k => ?_) ?_
    · show Steps p.tables e below (T10.setTop (mkF m 54 #[.val (.ref (n0 + ob0)), .val (.int i1), .val (.int i2), .val (.int i3), .val (.int i4), .val (.ref (n0 + ob5)), .val (.int i6), .unset] [(.int x11)])) _
      refine XS.ifYes X10.here hx rfl (pc0 := 54) (pc' := 66) rfl (hb hby d5_54) rfl ((if0 _ _).trans (teq hc12).1) (by decide) (by decide) ?_
      exact k
    exact bt5_66 hw hC X10 e10 O10 N10 (by omega) (by omega) hf
  · rw [if_neg hc12] at hf
    obtain ⟨D13, hq13, hf⟩ := own_bind hf
    obtain ⟨T13, h13, L13, X13, e13, O13, N13, st13⟩ := stIW X10 hx hZ e10 O10 N10 hq13 rfl (g := (mkF m 62 #[.val (.ref (n0 + ob0)), .val (.int i1), .val (.int i2), .val (.int i3), .val (.int i4), .val (.ref (n0 + ob5)), .val (.int i6), .unset] [(.int (1 : Int32)), (.int i6), (.ref (n0 + ob5))])) rfl rfl (hb hby d5_62)
    refine Gl.on (B := T13.setTop (mkF m 66 #[.val (.ref (n0 + ob0)), .val (.int i1), .val (.int i2), .val (.int i3), .val (.int i4), .val (.ref (n0 + ob5)), .val (.int (i6 + (1 : Int32))), .unset] [])) (fun t k => ?_) ?_
    · show Steps p.tables e below (T10.setTop (mkF m 54 #[.val (.ref (n0 + ob0)), .val (.int i1), .val (.int i2), .val (.int i3), .val (.int i4), .val (.ref (n0 + ob5)), .val (.int i6), .unset] [(.int x11)])) _
      refine XS.ifNo X10.here hx rfl (hb hby d5_54) rfl ((if0 _ _).trans (feq hc12).1) ?_
      show Steps p.tables e below (T10.setTop (mkF m 57 #[.val (.ref (n0 + ob0)), .val (.int i1), .val (.int i2), .val (.int i3), .val (.int i4), .val (.ref (n0 + ob5)), .val (.int i6), .unset] [])) _
      refine XS.aload X10.here hx rfl (hb hby d5_57) rfl rfl ?_
      show Steps p.tables e below (T10.setTop (mkF m 59 #[.val (.ref (n0 + ob0)), .val (.int i1), .val (.int i2), .val (.int i3), .val (.int i4), .val (.ref (n0 + ob5)), .val (.int i6), .unset] [(.ref (n0 + ob5))])) _
      refine XS.iload X10.here hx rfl (hb hby d5_59) rfl ?_
      show Steps p.tables e below (T10.setTop (mkF m 61 #[.val (.ref (n0 + ob0)), .val (.int i1), .val (.int i2), .val (.int i3), .val (.int i4), .val (.ref (n0 + ob5)), .val (.int i6), .unset] [(.int i6), (.ref (n0 + ob5))])) _
      refine XS.iconst X10.here hx rfl (hb hby d5_61) ?_
      show Steps p.tables e below (T10.setTop (mkF m 62 #[.val (.ref (n0 + ob0)), .val (.int i1), .val (.int i2), .val (.int i3), .val (.int i4), .val (.ref (n0 + ob5)), .val (.int i6), .unset] [(.int (1 : Int32)), (.int i6), (.ref (n0 + ob5))])) _
      refine st13 _ ?_
      show Steps p.tables e below (T13.setTop (mkF m 63 #[.val (.ref (n0 + ob0)), .val (.int i1), .val (.int i2), .val (.int i3), .val (.int i4), .val (.ref (n0 + ob5)), .val (.int i6), .unset] [])) _
      refine XS.iinc X13.here hx rfl (hb hby d5_63) rfl (l' := #[.val (.ref (n0 + ob0)), .val (.int i1), .val (.int i2), .val (.int i3), .val (.int i4), .val (.ref (n0 + ob5)), .val (.int (i6 + (1 : Int32))), .unset]) rfl ?_
      exact k
    exact bt5_66 hw hC X13 e13 O13 N13 (by omega) (by omega) hf
def f5 (D : Hp) (ob0 : Nat) (i1 : Int32) (i2 : Int32) (i3 : Int32) (i4 : Int32) : Option (Int32 × Hp) :=
  own_let (D.length) fun a1 => (nA D 0 (4 : Int32) 4 (.int (0 : Int32))).bind fun D1 =>
  (wV D1 a1 0 (0 : Int32) (.int (-1 : Int32))).bind fun D2 =>
  (wV D2 a1 0 (1 : Int32) (.int (-1 : Int32))).bind fun D3 =>
  (wV D3 a1 0 (2 : Int32) (.int (-1 : Int32))).bind fun D4 =>
  (wV D4 a1 0 (3 : Int32) (.int (-1 : Int32))).bind fun D5 =>
  (f6 D5 i1 i2 i3 (2 : Int32) i4).bind fun q6 => own_let q6.1 fun x7 => own_let q6.2 fun D6 =>
  if x7 = (0 : Int32) then (b5_45 D6 ob0 i1 i2 i3 i4 a1 (0 : Int32)) else ((wV D6 a1 0 (0 : Int32) (.int (2 : Int32))).bind fun D9 =>
  b5_45 D9 ob0 i1 i2 i3 i4 a1 ((0 : Int32) + (1 : Int32)))
theorem ef_5 (m : MethodId) (n0 : Nat) (ob0 : Nat) (i1 : Int32) (i2 : Int32) (i3 : Int32) (i4 : Int32) : entryFrame m #[(.ref (n0 + ob0)), (.int i1), (.int i2), (.int i3), (.int i4)] 8 = mkF m 0 #[.val (.ref (n0 + ob0)), .val (.int i1), .val (.int i2), .val (.int i3), .val (.int i4), .unset, .unset, .unset] [] := by first | (simp [entryFrame, mkF, argsToLocals, Value.category]; done) | rfl
set_option maxRecDepth 65536 in
set_option maxHeartbeats 40000000 in
theorem ct5 {l : Launch} {Z : State} {a0 : Array Value} (hw : ∀ d ∈ tables_1, d.before a0 Z = true) {n0 : Nat} {D D' : Hp} {ob0 : Nat} {i1 : Int32} {i2 : Int32} {i3 : Int32} {i4 : Int32} {r : Int32} (hf : f5 D ob0 i1 i2 i3 i4 = some (r, D')) :
    Ct Kt1 l Z (⟨"com/example/planar_drawing_kit/planardrawingkit/inspect/CrossingQueueRemovePinLaw", "drains", "(Lcom/example/planar_drawing_kit/planardrawingkit/inspect/CrossingQueue;IIII)Z"⟩ : MethodName) (.code (⟨"com/example/planar_drawing_kit/planardrawingkit/inspect/CrossingQueueRemovePinLaw", "drains", "(Lcom/example/planar_drawing_kit/planardrawingkit/inspect/CrossingQueue;IIII)Z"⟩ : MethodName) method_4_code 8 (some .boolean)) ({ frames := 2, cells := 1, slots := 4, locals := 28 } : Room) n0 D #[(.ref (n0 + ob0)), (.int i1), (.int i2), (.int i3), (.int i4)] (some (.int r)) D' := by
  refine Ct.of (plainFor_of_name pn_5) ?_
  intro p e s m below meth c T0 h0 hC X0 e0 O0
  obtain ⟨hx, hZ, hby, hml, hown, hnm, hret, hlk⟩ := id hC
  have hml : c.maxLocals = 8 := hml
  have hown : s.vm.findClass "com/example/planar_drawing_kit/planardrawingkit/inspect/CrossingQueueRemovePinLaw" = some m.cls := hown
  have hnm : meth.name = "drains" := hnm
  have N0 := Fr.nil n0
  refine Gl.on (fun t k => castTop (ef_5 m n0 ob0 i1 i2 i3 i4) k) ?_
  rw [f5] at hf
  obtain ⟨a1, ha1, hf⟩ := own_letE hf
  obtain ⟨D1, hD1, hf⟩ := own_bind hf
  obtain ⟨T1, h1, X1, e1, O1, st1⟩ := newAW X0 hx hZ (aty := .int) (hw _ (List.mem_of_getElem? (i := 9) rfl)) e0 O0 rfl rfl hD1 (g := (mkF m 1 #[.val (.ref (n0 + ob0)), .val (.int i1), .val (.int i2), .val (.int i3), .val (.int i4), .unset, .unset, .unset] [(.int (4 : Int32))])) rfl (hb hby d5_1) rfl (by decide) (by show _ + 1 ≤ 1; omega) (by show _ + 4 ≤ 4; omega)
  rw [ha1] at st1
  obtain ⟨D2, hq2, hf⟩ := own_bind hf
  obtain ⟨T2, h2, L2, X2, e2, O2, N2, st2⟩ := stIW X1 hx hZ e1 O1 N0 hq2 rfl (g := (mkF m 6 #[.val (.ref (n0 + ob0)), .val (.int i1), .val (.int i2), .val (.int i3), .val (.int i4), .unset, .unset, .unset] [(.int (-1 : Int32)), (.int (0 : Int32)), (.ref (n0 + a1)), (.ref (n0 + a1))])) rfl rfl (hb hby d5_6)
  obtain ⟨D3, hq3, hf⟩ := own_bind hf
  obtain ⟨T3, h3, L3, X3, e3, O3, N3, st3⟩ := stIW X2 hx hZ e2 O2 N2 hq3 rfl (g := (mkF m 10 #[.val (.ref (n0 + ob0)), .val (.int i1), .val (.int i2), .val (.int i3), .val (.int i4), .unset, .unset, .unset] [(.int (-1 : Int32)), (.int (1 : Int32)), (.ref (n0 + a1)), (.ref (n0 + a1))])) rfl rfl (hb hby d5_10)
  obtain ⟨D4, hq4, hf⟩ := own_bind hf
  obtain ⟨T4, h4, L4, X4, e4, O4, N4, st4⟩ := stIW X3 hx hZ e3 O3 N3 hq4 rfl (g := (mkF m 14 #[.val (.ref (n0 + ob0)), .val (.int i1), .val (.int i2), .val (.int i3), .val (.int i4), .unset, .unset, .unset] [(.int (-1 : Int32)), (.int (2 : Int32)), (.ref (n0 + a1)), (.ref (n0 + a1))])) rfl rfl (hb hby d5_14)
  obtain ⟨D5, hq5, hf⟩ := own_bind hf
  obtain ⟨T5, h5, L5, X5, e5, O5, N5, st5⟩ := stIW X4 hx hZ e4 O4 N4 hq5 rfl (g := (mkF m 18 #[.val (.ref (n0 + ob0)), .val (.int i1), .val (.int i2), .val (.int i3), .val (.int i4), .unset, .unset, .unset] [(.int (-1 : Int32)), (.int (3 : Int32)), (.ref (n0 + a1)), (.ref (n0 + a1))])) rfl rfl (hb hby d5_18)
  obtain ⟨⟨x7, D6⟩, hq6, hf⟩ := own_bind hf
  obtain ⟨_, rfl, hf⟩ := own_letE hf
  obtain ⟨_, rfl, hf⟩ := own_letE hf
  obtain ⟨T6, h6, L6, X6, e6, O6, N6, st6⟩ := callSW X5 hx hZ (y := (⟨"com/example/planar_drawing_kit/planardrawingkit/inspect/CrossingQueueRemovePinLaw", "stays", "(IIIII)Z"⟩ : MethodName)) hown (hw _ (List.mem_of_getElem? (i := 32) rfl)) (hw _ (List.mem_of_getElem? (i := 33) rfl)) (hw _ (List.mem_of_getElem? (i := 30) rfl)) (hw _ (List.mem_of_getElem? (i := 34) rfl)) (by decide) e5 O5 N5 (as' := [(.int i1), (.int i2), (.int i3), (.int (2 : Int32)), (.int i4)]) (ct6 hw hq6) (W := 0) (kc := 0) (ks := 0) rfl rfl (by decide) (by decide) (g := (mkF m 30 #[.val (.ref (n0 + ob0)), .val (.int i1), .val (.int i2), .val (.int i3), .val (.int i4), .val (.ref (n0 + a1)), .val (.int (0 : Int32)), .unset] [(.int i4), (.int (2 : Int32)), (.int i3), (.int i2), (.int i1)])) rfl (by rw [hml]; rfl) (rest := []) (lenOf pd_2 rfl) rfl (by show 2 * 0 + _ ≤ _; exact Nat.le_of_eq rfl) (hb hby d5_30) (by show _ + 0 ≤ 1; omega) (by show _ + 0 ≤ 4; omega)
  refine Gl.on (B := T6.setTop (mkF m 33 #[.val (.ref (n0 + ob0)), .val (.int i1), .val (.int i2), .val (.int i3), .val (.int i4), .val (.ref (n0 + a1)), .val (.int (0 : Int32)), .unset] [(.int x7)])) (fun t k => ?_) ?_
  · show Steps p.tables e below (T0.setTop (mkF m 0 #[.val (.ref (n0 + ob0)), .val (.int i1), .val (.int i2), .val (.int i3), .val (.int i4), .unset, .unset, .unset] [])) _
    refine XS.iconst X0.here hx rfl (hb hby d5_0) ?_
    show Steps p.tables e below (T0.setTop (mkF m 1 #[.val (.ref (n0 + ob0)), .val (.int i1), .val (.int i2), .val (.int i3), .val (.int i4), .unset, .unset, .unset] [(.int (4 : Int32))])) _
    refine st1 _ ?_
    show Steps p.tables e below (T1.setTop (mkF m 3 #[.val (.ref (n0 + ob0)), .val (.int i1), .val (.int i2), .val (.int i3), .val (.int i4), .unset, .unset, .unset] [(.ref (n0 + a1))])) _
    refine XS.dup X1.here hx rfl (hb hby d5_3) rfl rfl ?_
    show Steps p.tables e below (T1.setTop (mkF m 4 #[.val (.ref (n0 + ob0)), .val (.int i1), .val (.int i2), .val (.int i3), .val (.int i4), .unset, .unset, .unset] [(.ref (n0 + a1)), (.ref (n0 + a1))])) _
    refine XS.iconst X1.here hx rfl (hb hby d5_4) ?_
    show Steps p.tables e below (T1.setTop (mkF m 5 #[.val (.ref (n0 + ob0)), .val (.int i1), .val (.int i2), .val (.int i3), .val (.int i4), .unset, .unset, .unset] [(.int (0 : Int32)), (.ref (n0 + a1)), (.ref (n0 + a1))])) _
    refine XS.iconst X1.here hx rfl (hb hby d5_5) ?_
    show Steps p.tables e below (T1.setTop (mkF m 6 #[.val (.ref (n0 + ob0)), .val (.int i1), .val (.int i2), .val (.int i3), .val (.int i4), .unset, .unset, .unset] [(.int (-1 : Int32)), (.int (0 : Int32)), (.ref (n0 + a1)), (.ref (n0 + a1))])) _
    refine st2 _ ?_
    show Steps p.tables e below (T2.setTop (mkF m 7 #[.val (.ref (n0 + ob0)), .val (.int i1), .val (.int i2), .val (.int i3), .val (.int i4), .unset, .unset, .unset] [(.ref (n0 + a1))])) _
    refine XS.dup X2.here hx rfl (hb hby d5_7) rfl rfl ?_
    show Steps p.tables e below (T2.setTop (mkF m 8 #[.val (.ref (n0 + ob0)), .val (.int i1), .val (.int i2), .val (.int i3), .val (.int i4), .unset, .unset, .unset] [(.ref (n0 + a1)), (.ref (n0 + a1))])) _
    refine XS.iconst X2.here hx rfl (hb hby d5_8) ?_
    show Steps p.tables e below (T2.setTop (mkF m 9 #[.val (.ref (n0 + ob0)), .val (.int i1), .val (.int i2), .val (.int i3), .val (.int i4), .unset, .unset, .unset] [(.int (1 : Int32)), (.ref (n0 + a1)), (.ref (n0 + a1))])) _
    refine XS.iconst X2.here hx rfl (hb hby d5_9) ?_
    show Steps p.tables e below (T2.setTop (mkF m 10 #[.val (.ref (n0 + ob0)), .val (.int i1), .val (.int i2), .val (.int i3), .val (.int i4), .unset, .unset, .unset] [(.int (-1 : Int32)), (.int (1 : Int32)), (.ref (n0 + a1)), (.ref (n0 + a1))])) _
    refine st3 _ ?_
    show Steps p.tables e below (T3.setTop (mkF m 11 #[.val (.ref (n0 + ob0)), .val (.int i1), .val (.int i2), .val (.int i3), .val (.int i4), .unset, .unset, .unset] [(.ref (n0 + a1))])) _
    refine XS.dup X3.here hx rfl (hb hby d5_11) rfl rfl ?_
    show Steps p.tables e below (T3.setTop (mkF m 12 #[.val (.ref (n0 + ob0)), .val (.int i1), .val (.int i2), .val (.int i3), .val (.int i4), .unset, .unset, .unset] [(.ref (n0 + a1)), (.ref (n0 + a1))])) _
    refine XS.iconst X3.here hx rfl (hb hby d5_12) ?_
    show Steps p.tables e below (T3.setTop (mkF m 13 #[.val (.ref (n0 + ob0)), .val (.int i1), .val (.int i2), .val (.int i3), .val (.int i4), .unset, .unset, .unset] [(.int (2 : Int32)), (.ref (n0 + a1)), (.ref (n0 + a1))])) _
    refine XS.iconst X3.here hx rfl (hb hby d5_13) ?_
    show Steps p.tables e below (T3.setTop (mkF m 14 #[.val (.ref (n0 + ob0)), .val (.int i1), .val (.int i2), .val (.int i3), .val (.int i4), .unset, .unset, .unset] [(.int (-1 : Int32)), (.int (2 : Int32)), (.ref (n0 + a1)), (.ref (n0 + a1))])) _
    refine st4 _ ?_
    show Steps p.tables e below (T4.setTop (mkF m 15 #[.val (.ref (n0 + ob0)), .val (.int i1), .val (.int i2), .val (.int i3), .val (.int i4), .unset, .unset, .unset] [(.ref (n0 + a1))])) _
    refine XS.dup X4.here hx rfl (hb hby d5_15) rfl rfl ?_
    show Steps p.tables e below (T4.setTop (mkF m 16 #[.val (.ref (n0 + ob0)), .val (.int i1), .val (.int i2), .val (.int i3), .val (.int i4), .unset, .unset, .unset] [(.ref (n0 + a1)), (.ref (n0 + a1))])) _
    refine XS.iconst X4.here hx rfl (hb hby d5_16) ?_
    show Steps p.tables e below (T4.setTop (mkF m 17 #[.val (.ref (n0 + ob0)), .val (.int i1), .val (.int i2), .val (.int i3), .val (.int i4), .unset, .unset, .unset] [(.int (3 : Int32)), (.ref (n0 + a1)), (.ref (n0 + a1))])) _
    refine XS.iconst X4.here hx rfl (hb hby d5_17) ?_
    show Steps p.tables e below (T4.setTop (mkF m 18 #[.val (.ref (n0 + ob0)), .val (.int i1), .val (.int i2), .val (.int i3), .val (.int i4), .unset, .unset, .unset] [(.int (-1 : Int32)), (.int (3 : Int32)), (.ref (n0 + a1)), (.ref (n0 + a1))])) _
    refine st5 _ ?_
    show Steps p.tables e below (T5.setTop (mkF m 19 #[.val (.ref (n0 + ob0)), .val (.int i1), .val (.int i2), .val (.int i3), .val (.int i4), .unset, .unset, .unset] [(.ref (n0 + a1))])) _
    refine XS.astore X5.here hx rfl (hb hby d5_19) rfl rfl (l' := #[.val (.ref (n0 + ob0)), .val (.int i1), .val (.int i2), .val (.int i3), .val (.int i4), .val (.ref (n0 + a1)), .unset, .unset]) rfl ?_
    show Steps p.tables e below (T5.setTop (mkF m 21 #[.val (.ref (n0 + ob0)), .val (.int i1), .val (.int i2), .val (.int i3), .val (.int i4), .val (.ref (n0 + a1)), .unset, .unset] [])) _
    refine XS.iconst X5.here hx rfl (hb hby d5_21) ?_
    show Steps p.tables e below (T5.setTop (mkF m 22 #[.val (.ref (n0 + ob0)), .val (.int i1), .val (.int i2), .val (.int i3), .val (.int i4), .val (.ref (n0 + a1)), .unset, .unset] [(.int (0 : Int32))])) _
    refine XS.istore X5.here hx rfl (hb hby d5_22) rfl (l' := #[.val (.ref (n0 + ob0)), .val (.int i1), .val (.int i2), .val (.int i3), .val (.int i4), .val (.ref (n0 + a1)), .val (.int (0 : Int32)), .unset]) rfl ?_
    show Steps p.tables e below (T5.setTop (mkF m 24 #[.val (.ref (n0 + ob0)), .val (.int i1), .val (.int i2), .val (.int i3), .val (.int i4), .val (.ref (n0 + a1)), .val (.int (0 : Int32)), .unset] [])) _
    refine XS.iloadN X5.here hx rfl (hb hby d5_24) rfl ?_
    show Steps p.tables e below (T5.setTop (mkF m 25 #[.val (.ref (n0 + ob0)), .val (.int i1), .val (.int i2), .val (.int i3), .val (.int i4), .val (.ref (n0 + a1)), .val (.int (0 : Int32)), .unset] [(.int i1)])) _
    refine XS.iloadN X5.here hx rfl (hb hby d5_25) rfl ?_
    show Steps p.tables e below (T5.setTop (mkF m 26 #[.val (.ref (n0 + ob0)), .val (.int i1), .val (.int i2), .val (.int i3), .val (.int i4), .val (.ref (n0 + a1)), .val (.int (0 : Int32)), .unset] [(.int i2), (.int i1)])) _
    refine XS.iloadN X5.here hx rfl (hb hby d5_26) rfl ?_
    show Steps p.tables e below (T5.setTop (mkF m 27 #[.val (.ref (n0 + ob0)), .val (.int i1), .val (.int i2), .val (.int i3), .val (.int i4), .val (.ref (n0 + a1)), .val (.int (0 : Int32)), .unset] [(.int i3), (.int i2), (.int i1)])) _
    refine XS.iconst X5.here hx rfl (hb hby d5_27) ?_
    show Steps p.tables e below (T5.setTop (mkF m 28 #[.val (.ref (n0 + ob0)), .val (.int i1), .val (.int i2), .val (.int i3), .val (.int i4), .val (.ref (n0 + a1)), .val (.int (0 : Int32)), .unset] [(.int (2 : Int32)), (.int i3), (.int i2), (.int i1)])) _
    refine XS.iload X5.here hx rfl (hb hby d5_28) rfl ?_
    show Steps p.tables e below (T5.setTop (mkF m 30 #[.val (.ref (n0 + ob0)), .val (.int i1), .val (.int i2), .val (.int i3), .val (.int i4), .val (.ref (n0 + a1)), .val (.int (0 : Int32)), .unset] [(.int i4), (.int (2 : Int32)), (.int i3), (.int i2), (.int i1)])) _
    refine st6 _ ?_
    exact k
  by_cases hc8 : x7 = (0 : Int32)
  · rw [if_pos hc8] at hf
    refine Gl.on (B := T6.setTop (mkF m 45 #[.val (.ref (n0 + ob0)), .val (.int i1), .val (.int i2), .val (.int i3), .val (.int i4), .val (.ref (n0 + a1)), .val (.int (0 : Int32)), .unset] [])) (fun t k => ?_) ?_
    · show Steps p.tables e below (T6.setTop (mkF m 33 #[.val (.ref (n0 + ob0)), .val (.int i1), .val (.int i2), .val (.int i3), .val (.int i4), .val (.ref (n0 + a1)), .val (.int (0 : Int32)), .unset] [(.int x7)])) _
      refine XS.ifYes X6.here hx rfl (pc0 := 33) (pc' := 45) rfl (hb hby d5_33) rfl ((if0 _ _).trans (teq hc8).1) (by decide) (by decide) ?_
      exact k
    exact bt5_45 hw hC X6 e6 O6 N6 (by omega) (by omega) hf
  · rw [if_neg hc8] at hf
    obtain ⟨D9, hq9, hf⟩ := own_bind hf
    obtain ⟨T9, h9, L9, X9, e9, O9, N9, st9⟩ := stIW X6 hx hZ e6 O6 N6 hq9 rfl (g := (mkF m 41 #[.val (.ref (n0 + ob0)), .val (.int i1), .val (.int i2), .val (.int i3), .val (.int i4), .val (.ref (n0 + a1)), .val (.int (0 : Int32)), .unset] [(.int (2 : Int32)), (.int (0 : Int32)), (.ref (n0 + a1))])) rfl rfl (hb hby d5_41)
    refine Gl.on (B := T9.setTop (mkF m 45 #[.val (.ref (n0 + ob0)), .val (.int i1), .val (.int i2), .val (.int i3), .val (.int i4), .val (.ref (n0 + a1)), .val (.int ((0 : Int32) + (1 : Int32))), .unset] [])) (fun t k => ?_) ?_
    · show Steps p.tables e below (T6.setTop (mkF m 33 #[.val (.ref (n0 + ob0)), .val (.int i1), .val (.int i2), .val (.int i3), .val (.int i4), .val (.ref (n0 + a1)), .val (.int (0 : Int32)), .unset] [(.int x7)])) _
      refine XS.ifNo X6.here hx rfl (hb hby d5_33) rfl ((if0 _ _).trans (feq hc8).1) ?_
      show Steps p.tables e below (T6.setTop (mkF m 36 #[.val (.ref (n0 + ob0)), .val (.int i1), .val (.int i2), .val (.int i3), .val (.int i4), .val (.ref (n0 + a1)), .val (.int (0 : Int32)), .unset] [])) _
      refine XS.aload X6.here hx rfl (hb hby d5_36) rfl rfl ?_
      show Steps p.tables e below (T6.setTop (mkF m 38 #[.val (.ref (n0 + ob0)), .val (.int i1), .val (.int i2), .val (.int i3), .val (.int i4), .val (.ref (n0 + a1)), .val (.int (0 : Int32)), .unset] [(.ref (n0 + a1))])) _
      refine XS.iload X6.here hx rfl (hb hby d5_38) rfl ?_
      show Steps p.tables e below (T6.setTop (mkF m 40 #[.val (.ref (n0 + ob0)), .val (.int i1), .val (.int i2), .val (.int i3), .val (.int i4), .val (.ref (n0 + a1)), .val (.int (0 : Int32)), .unset] [(.int (0 : Int32)), (.ref (n0 + a1))])) _
      refine XS.iconst X6.here hx rfl (hb hby d5_40) ?_
      show Steps p.tables e below (T6.setTop (mkF m 41 #[.val (.ref (n0 + ob0)), .val (.int i1), .val (.int i2), .val (.int i3), .val (.int i4), .val (.ref (n0 + a1)), .val (.int (0 : Int32)), .unset] [(.int (2 : Int32)), (.int (0 : Int32)), (.ref (n0 + a1))])) _
      refine st9 _ ?_
      show Steps p.tables e below (T9.setTop (mkF m 42 #[.val (.ref (n0 + ob0)), .val (.int i1), .val (.int i2), .val (.int i3), .val (.int i4), .val (.ref (n0 + a1)), .val (.int (0 : Int32)), .unset] [])) _
      refine XS.iinc X9.here hx rfl (hb hby d5_42) rfl (l' := #[.val (.ref (n0 + ob0)), .val (.int i1), .val (.int i2), .val (.int i3), .val (.int i4), .val (.ref (n0 + a1)), .val (.int ((0 : Int32) + (1 : Int32))), .unset]) rfl ?_
      exact k
    exact bt5_45 hw hC X9 e9 O9 N9 (by omega) (by omega) hf
theorem pd_4 : parseMethodDescriptor "(II)V" = some ⟨[.int, .int], none⟩ := by decide +kernel
theorem pd_5 : parseMethodDescriptor "(Lcom/example/planar_drawing_kit/planardrawingkit/inspect/CrossingQueue;IIII)Z" = some ⟨[(.object "com/example/planar_drawing_kit/planardrawingkit/inspect/CrossingQueue"), .int, .int, .int, .int], some .boolean⟩ := by decide +kernel
theorem pn_0 : plainName "com/example/planar_drawing_kit/planardrawingkit/inspect/CrossingQueueRemovePinLaw" = true := by first | (simp [plainName, overriddenIn]; done) | decide +kernel
def b0_75 (D : Hp) (i0 : Int32) (ob3 : Nat) (i4 : Int32) (i5 : Int32) : Option (Int32 × Hp) :=
  (ck D ob3 1).bind fun u15 => (f4 D ob3 i4).bind fun D14 =>
  (ck D14 ob3 1).bind fun u17 => (f4 D14 ob3 i5).bind fun D16 =>
  (f5 D16 ob3 i0 i4 i5 (0 : Int32)).bind fun q18 => own_let q18.1 fun x19 => own_let q18.2 fun D18 =>
  (f5 D18 ob3 i0 i4 i5 (1 : Int32)).bind fun q20 => own_let q20.1 fun x21 => own_let q20.2 fun D20 =>
  if x19 = (0 : Int32) then (some ((0 : Int32), D20)) else (if x21 = (0 : Int32) then (some ((0 : Int32), D20)) else (some ((1 : Int32), D20)))
set_option maxRecDepth 65536 in
set_option maxHeartbeats 40000000 in
theorem bt0_75 {p : Program} {l : Launch} {e : Env} {s : State} {m : MethodId} {args : Array Value} {below : List Frame} {meth : Method} {c : Code} {Z : State} {a0 : Array Value} {n0 : Nat} {D' : Hp} {r : Int32} {T0 : State} {locs : List Loc} {cells slots : Nat} {h0 : Heap} {D : Hp} {i0 : Int32} {i1 : Int32} {i2 : Int32} {ob3 : Nat} {i4 : Int32} {i5 : Int32} (hw : ∀ d ∈ tables_1, d.before a0 Z = true) (hC : Cx p s m meth c Z code maxLocals ret "com/example/planar_drawing_kit/planardrawingkit/inspect/CrossingQueueRemovePinLaw" "law") (X0 : Stand p l e room_1 s m args below meth c T0 locs cells slots) (e0 : T0.heap = h0) (O0 : Ow Kt1 Z h0 n0 D) (N0 : Fr n0 locs) (hcc : cells ≤ 5) (hss : slots ≤ 36) (hf : b0_75 D i0 ob3 i4 i5 = some (r, D')) : Gl p e below s 24 128 (Qw Kt1 Z n0 (some (.int r)) D') (T0.setTop (mkF m 75 #[.val (.int i0), .val (.int i1), .val (.int i2), .val (.ref (n0 + ob3)), .val (.int i4), .val (.int i5), .unset, .unset] [])) := by
  obtain ⟨hx, hZ, hby, hml, hown, hnm, hret, hlk⟩ := id hC
  have hml : c.maxLocals = 8 := hml
  rw [b0_75] at hf
  obtain ⟨u15, hk14, hf⟩ := own_bind hf
  obtain ⟨D14, hq14, hf⟩ := own_bind hf
  obtain ⟨T14, h14, L14, X14, e14, O14, N14, st14⟩ := callVW X0 hx hZ (y := (⟨"com/example/planar_drawing_kit/planardrawingkit/inspect/CrossingQueue", "remove", "(I)V"⟩ : MethodName)) hown (hw _ (List.mem_of_getElem? (i := 23) rfl)) (hw _ (List.mem_of_getElem? (i := 24) rfl)) (hw _ (List.mem_of_getElem? (i := 26) rfl)) (hw _ (List.mem_of_getElem? (i := 25) rfl)) (hw _ (List.mem_of_getElem? (i := 2) rfl)) (hw _ (List.mem_of_getElem? (i := 27) rfl)) (by decide) e0 O0 N0 hk14 rfl (as' := [(.int i4)]) (ct4 hw hq14) (W := 0) (kc := 0) (ks := 0) rfl rfl (by decide) (by decide) (g := (mkF m 78 #[.val (.int i0), .val (.int i1), .val (.int i2), .val (.ref (n0 + ob3)), .val (.int i4), .val (.int i5), .unset, .unset] [(.int i4), (.ref (n0 + ob3))])) rfl (by rw [hml]; rfl) (rest := []) (lenOf pd_1 rfl) rfl (by show 2 * 0 + _ ≤ _; exact Nat.le_of_eq rfl) (hb hby at_78) (by show _ + 0 ≤ 24; omega) (by show _ + 0 ≤ 128; omega)
  obtain ⟨u17, hk16, hf⟩ := own_bind hf
  obtain ⟨D16, hq16, hf⟩ := own_bind hf
  obtain ⟨T16, h16, L16, X16, e16, O16, N16, st16⟩ := callVW X14 hx hZ (y := (⟨"com/example/planar_drawing_kit/planardrawingkit/inspect/CrossingQueue", "remove", "(I)V"⟩ : MethodName)) hown (hw _ (List.mem_of_getElem? (i := 23) rfl)) (hw _ (List.mem_of_getElem? (i := 24) rfl)) (hw _ (List.mem_of_getElem? (i := 26) rfl)) (hw _ (List.mem_of_getElem? (i := 25) rfl)) (hw _ (List.mem_of_getElem? (i := 2) rfl)) (hw _ (List.mem_of_getElem? (i := 27) rfl)) (by decide) e14 O14 N14 hk16 rfl (as' := [(.int i5)]) (ct4 hw hq16) (W := 0) (kc := 0) (ks := 0) rfl rfl (by decide) (by decide) (g := (mkF m 84 #[.val (.int i0), .val (.int i1), .val (.int i2), .val (.ref (n0 + ob3)), .val (.int i4), .val (.int i5), .unset, .unset] [(.int i5), (.ref (n0 + ob3))])) rfl (by rw [hml]; rfl) (rest := []) (lenOf pd_1 rfl) rfl (by show 2 * 0 + _ ≤ _; exact Nat.le_of_eq rfl) (hb hby at_84) (by show _ + 0 ≤ 24; omega) (by show _ + 0 ≤ 128; omega)
  obtain ⟨⟨x19, D18⟩, hq18, hf⟩ := own_bind hf
  obtain ⟨_, rfl, hf⟩ := own_letE hf
  obtain ⟨_, rfl, hf⟩ := own_letE hf
  obtain ⟨T18, h18, L18, X18, e18, O18, N18, st18⟩ := callSW X16 hx hZ (y := (⟨"com/example/planar_drawing_kit/planardrawingkit/inspect/CrossingQueueRemovePinLaw", "drains", "(Lcom/example/planar_drawing_kit/planardrawingkit/inspect/CrossingQueue;IIII)Z"⟩ : MethodName)) hown (hw _ (List.mem_of_getElem? (i := 28) rfl)) (hw _ (List.mem_of_getElem? (i := 29) rfl)) (hw _ (List.mem_of_getElem? (i := 30) rfl)) (hw _ (List.mem_of_getElem? (i := 31) rfl)) (by decide) e16 O16 N16 (as' := [(.ref (n0 + ob3)), (.int i0), (.int i4), (.int i5), (.int (0 : Int32))]) (ct5 hw hq18) (W := 0) (kc := 1) (ks := 4) rfl rfl (by decide) (by decide) (g := (mkF m 94 #[.val (.int i0), .val (.int i1), .val (.int i2), .val (.ref (n0 + ob3)), .val (.int i4), .val (.int i5), .unset, .unset] [(.int (0 : Int32)), (.int i5), (.int i4), (.int i0), (.ref (n0 + ob3))])) rfl (by rw [hml]; rfl) (rest := []) (lenOf pd_5 rfl) rfl (by show 2 * 0 + _ ≤ _; exact Nat.le_of_eq rfl) (hb hby at_94) (by show _ + 1 ≤ 24; omega) (by show _ + 4 ≤ 128; omega)
  obtain ⟨⟨x21, D20⟩, hq20, hf⟩ := own_bind hf
  obtain ⟨_, rfl, hf⟩ := own_letE hf
  obtain ⟨_, rfl, hf⟩ := own_letE hf
  obtain ⟨T20, h20, L20, X20, e20, O20, N20, st20⟩ := callSW X18 hx hZ (y := (⟨"com/example/planar_drawing_kit/planardrawingkit/inspect/CrossingQueueRemovePinLaw", "drains", "(Lcom/example/planar_drawing_kit/planardrawingkit/inspect/CrossingQueue;IIII)Z"⟩ : MethodName)) hown (hw _ (List.mem_of_getElem? (i := 28) rfl)) (hw _ (List.mem_of_getElem? (i := 29) rfl)) (hw _ (List.mem_of_getElem? (i := 30) rfl)) (hw _ (List.mem_of_getElem? (i := 31) rfl)) (by decide) e18 O18 N18 (as' := [(.ref (n0 + ob3)), (.int i0), (.int i4), (.int i5), (.int (1 : Int32))]) (ct5 hw hq20) (W := 0) (kc := 1) (ks := 4) rfl rfl (by decide) (by decide) (g := (mkF m 106 #[.val (.int i0), .val (.int i1), .val (.int i2), .val (.ref (n0 + ob3)), .val (.int i4), .val (.int i5), .val (.int x19), .unset] [(.int (1 : Int32)), (.int i5), (.int i4), (.int i0), (.ref (n0 + ob3))])) rfl (by rw [hml]; rfl) (rest := []) (lenOf pd_5 rfl) rfl (by show 2 * 0 + _ ≤ _; exact Nat.le_of_eq rfl) (hb hby at_106) (by show _ + 1 ≤ 24; omega) (by show _ + 4 ≤ 128; omega)
  refine Gl.on (B := T20.setTop (mkF m 113 #[.val (.int i0), .val (.int i1), .val (.int i2), .val (.ref (n0 + ob3)), .val (.int i4), .val (.int i5), .val (.int x19), .val (.int x21)] [(.int x19)])) (fun t k => ?_) ?_
  · show Steps p.tables e below (T0.setTop (mkF m 75 #[.val (.int i0), .val (.int i1), .val (.int i2), .val (.ref (n0 + ob3)), .val (.int i4), .val (.int i5), .unset, .unset] [])) _
    refine XS.aloadN X0.here hx rfl (hb hby at_75) rfl rfl ?_
    show Steps p.tables e below (T0.setTop (mkF m 76 #[.val (.int i0), .val (.int i1), .val (.int i2), .val (.ref (n0 + ob3)), .val (.int i4), .val (.int i5), .unset, .unset] [(.ref (n0 + ob3))])) _
    refine XS.iload X0.here hx rfl (hb hby at_76) rfl ?_
    show Steps p.tables e below (T0.setTop (mkF m 78 #[.val (.int i0), .val (.int i1), .val (.int i2), .val (.ref (n0 + ob3)), .val (.int i4), .val (.int i5), .unset, .unset] [(.int i4), (.ref (n0 + ob3))])) _
    refine st14 _ ?_
    show Steps p.tables e below (T14.setTop (mkF m 81 #[.val (.int i0), .val (.int i1), .val (.int i2), .val (.ref (n0 + ob3)), .val (.int i4), .val (.int i5), .unset, .unset] [])) _
    refine XS.aloadN X14.here hx rfl (hb hby at_81) rfl rfl ?_
    show Steps p.tables e below (T14.setTop (mkF m 82 #[.val (.int i0), .val (.int i1), .val (.int i2), .val (.ref (n0 + ob3)), .val (.int i4), .val (.int i5), .unset, .unset] [(.ref (n0 + ob3))])) _
    refine XS.iload X14.here hx rfl (hb hby at_82) rfl ?_
    show Steps p.tables e below (T14.setTop (mkF m 84 #[.val (.int i0), .val (.int i1), .val (.int i2), .val (.ref (n0 + ob3)), .val (.int i4), .val (.int i5), .unset, .unset] [(.int i5), (.ref (n0 + ob3))])) _
    refine st16 _ ?_
    show Steps p.tables e below (T16.setTop (mkF m 87 #[.val (.int i0), .val (.int i1), .val (.int i2), .val (.ref (n0 + ob3)), .val (.int i4), .val (.int i5), .unset, .unset] [])) _
    refine XS.aloadN X16.here hx rfl (hb hby at_87) rfl rfl ?_
    show Steps p.tables e below (T16.setTop (mkF m 88 #[.val (.int i0), .val (.int i1), .val (.int i2), .val (.ref (n0 + ob3)), .val (.int i4), .val (.int i5), .unset, .unset] [(.ref (n0 + ob3))])) _
    refine XS.iloadN X16.here hx rfl (hb hby at_88) rfl ?_
    show Steps p.tables e below (T16.setTop (mkF m 89 #[.val (.int i0), .val (.int i1), .val (.int i2), .val (.ref (n0 + ob3)), .val (.int i4), .val (.int i5), .unset, .unset] [(.int i0), (.ref (n0 + ob3))])) _
    refine XS.iload X16.here hx rfl (hb hby at_89) rfl ?_
    show Steps p.tables e below (T16.setTop (mkF m 91 #[.val (.int i0), .val (.int i1), .val (.int i2), .val (.ref (n0 + ob3)), .val (.int i4), .val (.int i5), .unset, .unset] [(.int i4), (.int i0), (.ref (n0 + ob3))])) _
    refine XS.iload X16.here hx rfl (hb hby at_91) rfl ?_
    show Steps p.tables e below (T16.setTop (mkF m 93 #[.val (.int i0), .val (.int i1), .val (.int i2), .val (.ref (n0 + ob3)), .val (.int i4), .val (.int i5), .unset, .unset] [(.int i5), (.int i4), (.int i0), (.ref (n0 + ob3))])) _
    refine XS.iconst X16.here hx rfl (hb hby at_93) ?_
    show Steps p.tables e below (T16.setTop (mkF m 94 #[.val (.int i0), .val (.int i1), .val (.int i2), .val (.ref (n0 + ob3)), .val (.int i4), .val (.int i5), .unset, .unset] [(.int (0 : Int32)), (.int i5), (.int i4), (.int i0), (.ref (n0 + ob3))])) _
    refine st18 _ ?_
    show Steps p.tables e below (T18.setTop (mkF m 97 #[.val (.int i0), .val (.int i1), .val (.int i2), .val (.ref (n0 + ob3)), .val (.int i4), .val (.int i5), .unset, .unset] [(.int x19)])) _
    refine XS.istore X18.here hx rfl (hb hby at_97) rfl (l' := #[.val (.int i0), .val (.int i1), .val (.int i2), .val (.ref (n0 + ob3)), .val (.int i4), .val (.int i5), .val (.int x19), .unset]) rfl ?_
    show Steps p.tables e below (T18.setTop (mkF m 99 #[.val (.int i0), .val (.int i1), .val (.int i2), .val (.ref (n0 + ob3)), .val (.int i4), .val (.int i5), .val (.int x19), .unset] [])) _
    refine XS.aloadN X18.here hx rfl (hb hby at_99) rfl rfl ?_
    show Steps p.tables e below (T18.setTop (mkF m 100 #[.val (.int i0), .val (.int i1), .val (.int i2), .val (.ref (n0 + ob3)), .val (.int i4), .val (.int i5), .val (.int x19), .unset] [(.ref (n0 + ob3))])) _
    refine XS.iloadN X18.here hx rfl (hb hby at_100) rfl ?_
    show Steps p.tables e below (T18.setTop (mkF m 101 #[.val (.int i0), .val (.int i1), .val (.int i2), .val (.ref (n0 + ob3)), .val (.int i4), .val (.int i5), .val (.int x19), .unset] [(.int i0), (.ref (n0 + ob3))])) _
    refine XS.iload X18.here hx rfl (hb hby at_101) rfl ?_
    show Steps p.tables e below (T18.setTop (mkF m 103 #[.val (.int i0), .val (.int i1), .val (.int i2), .val (.ref (n0 + ob3)), .val (.int i4), .val (.int i5), .val (.int x19), .unset] [(.int i4), (.int i0), (.ref (n0 + ob3))])) _
    refine XS.iload X18.here hx rfl (hb hby at_103) rfl ?_
    show Steps p.tables e below (T18.setTop (mkF m 105 #[.val (.int i0), .val (.int i1), .val (.int i2), .val (.ref (n0 + ob3)), .val (.int i4), .val (.int i5), .val (.int x19), .unset] [(.int i5), (.int i4), (.int i0), (.ref (n0 + ob3))])) _
    refine XS.iconst X18.here hx rfl (hb hby at_105) ?_
    show Steps p.tables e below (T18.setTop (mkF m 106 #[.val (.int i0), .val (.int i1), .val (.int i2), .val (.ref (n0 + ob3)), .val (.int i4), .val (.int i5), .val (.int x19), .unset] [(.int (1 : Int32)), (.int i5), (.int i4), (.int i0), (.ref (n0 + ob3))])) _
    refine st20 _ ?_
    show Steps p.tables e below (T20.setTop (mkF m 109 #[.val (.int i0), .val (.int i1), .val (.int i2), .val (.ref (n0 + ob3)), .val (.int i4), .val (.int i5), .val (.int x19), .unset] [(.int x21)])) _
    refine XS.istore X20.here hx rfl (hb hby at_109) rfl (l' := #[.val (.int i0), .val (.int i1), .val (.int i2), .val (.ref (n0 + ob3)), .val (.int i4), .val (.int i5), .val (.int x19), .val (.int x21)]) rfl ?_
    show Steps p.tables e below (T20.setTop (mkF m 111 #[.val (.int i0), .val (.int i1), .val (.int i2), .val (.ref (n0 + ob3)), .val (.int i4), .val (.int i5), .val (.int x19), .val (.int x21)] [])) _
    refine XS.iload X20.here hx rfl (hb hby at_111) rfl ?_
    exact k
  by_cases hc22 : x19 = (0 : Int32)
  · rw [if_pos hc22] at hf
    refine Gl.on (B := T20.setTop (mkF m 126 #[.val (.int i0), .val (.int i1), .val (.int i2), .val (.ref (n0 + ob3)), .val (.int i4), .val (.int i5), .val (.int x19), .val (.int x21)] [(.int (0 : Int32))])) (fun t k => ?_) ?_
    · show Steps p.tables e below (T20.setTop (mkF m 113 #[.val (.int i0), .val (.int i1), .val (.int i2), .val (.ref (n0 + ob3)), .val (.int i4), .val (.int i5), .val (.int x19), .val (.int x21)] [(.int x19)])) _
      refine XS.ifYes X20.here hx rfl (pc0 := 113) (pc' := 125) rfl (hb hby at_113) rfl ((if0 _ _).trans (teq hc22).1) (by decide) (by decide) ?_
      show Steps p.tables e below (T20.setTop (mkF m 125 #[.val (.int i0), .val (.int i1), .val (.int i2), .val (.ref (n0 + ob3)), .val (.int i4), .val (.int i5), .val (.int x19), .val (.int x21)] [])) _
      refine XS.iconst X20.here hx rfl (hb hby at_125) ?_
      exact k
    obtain ⟨rfl, rfl⟩ := own_inj hf
    exact Gl.outN X20 hx hlk (t := .boolean) hret (by simp) (hb hby at_126) ⟨rfl, N20, by rw [e20]; exact O20⟩ (by show _ ≤ 24; omega) (by show _ ≤ 128; omega)
  · rw [if_neg hc22] at hf
    refine Gl.on (B := T20.setTop (mkF m 118 #[.val (.int i0), .val (.int i1), .val (.int i2), .val (.ref (n0 + ob3)), .val (.int i4), .val (.int i5), .val (.int x19), .val (.int x21)] [(.int x21)])) (fun t k => ?_) ?_
    · show Steps p.tables e below (T20.setTop (mkF m 113 #[.val (.int i0), .val (.int i1), .val (.int i2), .val (.ref (n0 + ob3)), .val (.int i4), .val (.int i5), .val (.int x19), .val (.int x21)] [(.int x19)])) _
      refine XS.ifNo X20.here hx rfl (hb hby at_113) rfl ((if0 _ _).trans (feq hc22).1) ?_
      show Steps p.tables e below (T20.setTop (mkF m 116 #[.val (.int i0), .val (.int i1), .val (.int i2), .val (.ref (n0 + ob3)), .val (.int i4), .val (.int i5), .val (.int x19), .val (.int x21)] [])) _
      refine XS.iload X20.here hx rfl (hb hby at_116) rfl ?_
      exact k
    by_cases hc23 : x21 = (0 : Int32)
    · rw [if_pos hc23] at hf
      refine Gl.on (B := T20.setTop (mkF m 126 #[.val (.int i0), .val (.int i1), .val (.int i2), .val (.ref (n0 + ob3)), .val (.int i4), .val (.int i5), .val (.int x19), .val (.int x21)] [(.int (0 : Int32))])) (fun t k => ?_) ?_
      · show Steps p.tables e below (T20.setTop (mkF m 118 #[.val (.int i0), .val (.int i1), .val (.int i2), .val (.ref (n0 + ob3)), .val (.int i4), .val (.int i5), .val (.int x19), .val (.int x21)] [(.int x21)])) _
        refine XS.ifYes X20.here hx rfl (pc0 := 118) (pc' := 125) rfl (hb hby at_118) rfl ((if0 _ _).trans (teq hc23).1) (by decide) (by decide) ?_
        show Steps p.tables e below (T20.setTop (mkF m 125 #[.val (.int i0), .val (.int i1), .val (.int i2), .val (.ref (n0 + ob3)), .val (.int i4), .val (.int i5), .val (.int x19), .val (.int x21)] [])) _
        refine XS.iconst X20.here hx rfl (hb hby at_125) ?_
        exact k
      obtain ⟨rfl, rfl⟩ := own_inj hf
      exact Gl.outN X20 hx hlk (t := .boolean) hret (by simp) (hb hby at_126) ⟨rfl, N20, by rw [e20]; exact O20⟩ (by show _ ≤ 24; omega) (by show _ ≤ 128; omega)
    · rw [if_neg hc23] at hf
      refine Gl.on (B := T20.setTop (mkF m 126 #[.val (.int i0), .val (.int i1), .val (.int i2), .val (.ref (n0 + ob3)), .val (.int i4), .val (.int i5), .val (.int x19), .val (.int x21)] [(.int (1 : Int32))])) (fun t k => ?_) ?_
      · show Steps p.tables e below (T20.setTop (mkF m 118 #[.val (.int i0), .val (.int i1), .val (.int i2), .val (.ref (n0 + ob3)), .val (.int i4), .val (.int i5), .val (.int x19), .val (.int x21)] [(.int x21)])) _
        refine XS.ifNo X20.here hx rfl (hb hby at_118) rfl ((if0 _ _).trans (feq hc23).1) ?_
        show Steps p.tables e below (T20.setTop (mkF m 121 #[.val (.int i0), .val (.int i1), .val (.int i2), .val (.ref (n0 + ob3)), .val (.int i4), .val (.int i5), .val (.int x19), .val (.int x21)] [])) _
        refine XS.iconst X20.here hx rfl (hb hby at_121) ?_
        show Steps p.tables e below (T20.setTop (mkF m 122 #[.val (.int i0), .val (.int i1), .val (.int i2), .val (.ref (n0 + ob3)), .val (.int i4), .val (.int i5), .val (.int x19), .val (.int x21)] [(.int (1 : Int32))])) _
        refine XS.goto X20.here hx rfl (pc0 := 122) (pc' := 126) rfl (hb hby at_122) (by decide) (by decide) ?_
        exact k
      obtain ⟨rfl, rfl⟩ := own_inj hf
      exact Gl.outN X20 hx hlk (t := .boolean) hret (by simp) (hb hby at_126) ⟨rfl, N20, by rw [e20]; exact O20⟩ (by show _ ≤ 24; omega) (by show _ ≤ 128; omega)
def b0_58 (D : Hp) (i0 : Int32) (ob3 : Nat) (i4 : Int32) (i5 : Int32) : Option (Int32 × Hp) :=
  if (i0 &&& (16 : Int32)) = (0 : Int32) then (b0_75 D i0 ob3 i4 i5) else ((ck D ob3 1).bind fun u13 => (f8 D ob3 (2 : Int32) (((i0.toUInt32 >>> ((5 : Int32) &&& 31).toUInt32).toInt32) &&& (1 : Int32))).bind fun D12 =>
  b0_75 D12 i0 ob3 i4 i5)
set_option maxRecDepth 65536 in
set_option maxHeartbeats 40000000 in
theorem bt0_58 {p : Program} {l : Launch} {e : Env} {s : State} {m : MethodId} {args : Array Value} {below : List Frame} {meth : Method} {c : Code} {Z : State} {a0 : Array Value} {n0 : Nat} {D' : Hp} {r : Int32} {T0 : State} {locs : List Loc} {cells slots : Nat} {h0 : Heap} {D : Hp} {i0 : Int32} {i1 : Int32} {i2 : Int32} {ob3 : Nat} {i4 : Int32} {i5 : Int32} (hw : ∀ d ∈ tables_1, d.before a0 Z = true) (hC : Cx p s m meth c Z code maxLocals ret "com/example/planar_drawing_kit/planardrawingkit/inspect/CrossingQueueRemovePinLaw" "law") (X0 : Stand p l e room_1 s m args below meth c T0 locs cells slots) (e0 : T0.heap = h0) (O0 : Ow Kt1 Z h0 n0 D) (N0 : Fr n0 locs) (hcc : cells ≤ 5) (hss : slots ≤ 36) (hf : b0_58 D i0 ob3 i4 i5 = some (r, D')) : Gl p e below s 24 128 (Qw Kt1 Z n0 (some (.int r)) D') (T0.setTop (mkF m 58 #[.val (.int i0), .val (.int i1), .val (.int i2), .val (.ref (n0 + ob3)), .val (.int i4), .val (.int i5), .unset, .unset] [])) := by
  obtain ⟨hx, hZ, hby, hml, hown, hnm, hret, hlk⟩ := id hC
  have hml : c.maxLocals = 8 := hml
  rw [b0_58] at hf
  refine Gl.on (B := T0.setTop (mkF m 62 #[.val (.int i0), .val (.int i1), .val (.int i2), .val (.ref (n0 + ob3)), .val (.int i4), .val (.int i5), .unset, .unset] [(.int (i0 &&& (16 : Int32)))])) (fun t k => ?_) ?_
  · show Steps p.tables e below (T0.setTop (mkF m 58 #[.val (.int i0), .val (.int i1), .val (.int i2), .val (.ref (n0 + ob3)), .val (.int i4), .val (.int i5), .unset, .unset] [])) _
    refine XS.iloadN X0.here hx rfl (hb hby at_58) rfl ?_
    show Steps p.tables e below (T0.setTop (mkF m 59 #[.val (.int i0), .val (.int i1), .val (.int i2), .val (.ref (n0 + ob3)), .val (.int i4), .val (.int i5), .unset, .unset] [(.int i0)])) _
    refine XS.bipush X0.here hx rfl (hb hby at_59) ?_
    show Steps p.tables e below (T0.setTop (mkF m 61 #[.val (.int i0), .val (.int i1), .val (.int i2), .val (.ref (n0 + ob3)), .val (.int i4), .val (.int i5), .unset, .unset] [(.int (16 : Int32)), (.int i0)])) _
    refine XS.iand X0.here hx rfl (hb hby at_61) rfl ?_
    exact k
  by_cases hc11 : (i0 &&& (16 : Int32)) = (0 : Int32)
  · rw [if_pos hc11] at hf
    refine Gl.on (B := T0.setTop (mkF m 75 #[.val (.int i0), .val (.int i1), .val (.int i2), .val (.ref (n0 + ob3)), .val (.int i4), .val (.int i5), .unset, .unset] [])) (fun t k => ?_) ?_
    · show Steps p.tables e below (T0.setTop (mkF m 62 #[.val (.int i0), .val (.int i1), .val (.int i2), .val (.ref (n0 + ob3)), .val (.int i4), .val (.int i5), .unset, .unset] [(.int (i0 &&& (16 : Int32)))])) _
      refine XS.ifYes X0.here hx rfl (pc0 := 62) (pc' := 75) rfl (hb hby at_62) rfl ((if0 _ _).trans (teq hc11).1) (by decide) (by decide) ?_
      exact k
    exact bt0_75 hw hC X0 e0 O0 N0 (by omega) (by omega) hf
  · rw [if_neg hc11] at hf
    obtain ⟨u13, hk12, hf⟩ := own_bind hf
    obtain ⟨D12, hq12, hf⟩ := own_bind hf
    obtain ⟨T12, h12, L12, X12, e12, O12, N12, st12⟩ := callVW X0 hx hZ (y := (⟨"com/example/planar_drawing_kit/planardrawingkit/inspect/CrossingQueue", "add", "(II)V"⟩ : MethodName)) hown (hw _ (List.mem_of_getElem? (i := 40) rfl)) (hw _ (List.mem_of_getElem? (i := 41) rfl)) (hw _ (List.mem_of_getElem? (i := 43) rfl)) (hw _ (List.mem_of_getElem? (i := 42) rfl)) (hw _ (List.mem_of_getElem? (i := 2) rfl)) (hw _ (List.mem_of_getElem? (i := 44) rfl)) (by decide) e0 O0 N0 hk12 rfl (as' := [(.int (2 : Int32)), (.int (((i0.toUInt32 >>> ((5 : Int32) &&& 31).toUInt32).toInt32) &&& (1 : Int32)))]) (ct8 hw hq12) (W := 0) (kc := 0) (ks := 0) rfl rfl (by decide) (by decide) (g := (mkF m 72 #[.val (.int i0), .val (.int i1), .val (.int i2), .val (.ref (n0 + ob3)), .val (.int i4), .val (.int i5), .unset, .unset] [(.int (((i0.toUInt32 >>> ((5 : Int32) &&& 31).toUInt32).toInt32) &&& (1 : Int32))), (.int (2 : Int32)), (.ref (n0 + ob3))])) rfl (by rw [hml]; rfl) (rest := []) (lenOf pd_4 rfl) rfl (by show 2 * 0 + _ ≤ _; exact Nat.le_of_eq rfl) (hb hby at_72) (by show _ + 0 ≤ 24; omega) (by show _ + 0 ≤ 128; omega)
    refine Gl.on (B := T12.setTop (mkF m 75 #[.val (.int i0), .val (.int i1), .val (.int i2), .val (.ref (n0 + ob3)), .val (.int i4), .val (.int i5), .unset, .unset] [])) (fun t k => ?_) ?_
    · show Steps p.tables e below (T0.setTop (mkF m 62 #[.val (.int i0), .val (.int i1), .val (.int i2), .val (.ref (n0 + ob3)), .val (.int i4), .val (.int i5), .unset, .unset] [(.int (i0 &&& (16 : Int32)))])) _
      refine XS.ifNo X0.here hx rfl (hb hby at_62) rfl ((if0 _ _).trans (feq hc11).1) ?_
      show Steps p.tables e below (T0.setTop (mkF m 65 #[.val (.int i0), .val (.int i1), .val (.int i2), .val (.ref (n0 + ob3)), .val (.int i4), .val (.int i5), .unset, .unset] [])) _
      refine XS.aloadN X0.here hx rfl (hb hby at_65) rfl rfl ?_
      show Steps p.tables e below (T0.setTop (mkF m 66 #[.val (.int i0), .val (.int i1), .val (.int i2), .val (.ref (n0 + ob3)), .val (.int i4), .val (.int i5), .unset, .unset] [(.ref (n0 + ob3))])) _
      refine XS.iconst X0.here hx rfl (hb hby at_66) ?_
      show Steps p.tables e below (T0.setTop (mkF m 67 #[.val (.int i0), .val (.int i1), .val (.int i2), .val (.ref (n0 + ob3)), .val (.int i4), .val (.int i5), .unset, .unset] [(.int (2 : Int32)), (.ref (n0 + ob3))])) _
      refine XS.iloadN X0.here hx rfl (hb hby at_67) rfl ?_
      show Steps p.tables e below (T0.setTop (mkF m 68 #[.val (.int i0), .val (.int i1), .val (.int i2), .val (.ref (n0 + ob3)), .val (.int i4), .val (.int i5), .unset, .unset] [(.int i0), (.int (2 : Int32)), (.ref (n0 + ob3))])) _
      refine XS.iconst X0.here hx rfl (hb hby at_68) ?_
      show Steps p.tables e below (T0.setTop (mkF m 69 #[.val (.int i0), .val (.int i1), .val (.int i2), .val (.ref (n0 + ob3)), .val (.int i4), .val (.int i5), .unset, .unset] [(.int (5 : Int32)), (.int i0), (.int (2 : Int32)), (.ref (n0 + ob3))])) _
      refine XS.iushr X0.here hx rfl (hb hby at_69) rfl ?_
      show Steps p.tables e below (T0.setTop (mkF m 70 #[.val (.int i0), .val (.int i1), .val (.int i2), .val (.ref (n0 + ob3)), .val (.int i4), .val (.int i5), .unset, .unset] [(.int ((i0.toUInt32 >>> ((5 : Int32) &&& 31).toUInt32).toInt32)), (.int (2 : Int32)), (.ref (n0 + ob3))])) _
      refine XS.iconst X0.here hx rfl (hb hby at_70) ?_
      show Steps p.tables e below (T0.setTop (mkF m 71 #[.val (.int i0), .val (.int i1), .val (.int i2), .val (.ref (n0 + ob3)), .val (.int i4), .val (.int i5), .unset, .unset] [(.int (1 : Int32)), (.int ((i0.toUInt32 >>> ((5 : Int32) &&& 31).toUInt32).toInt32)), (.int (2 : Int32)), (.ref (n0 + ob3))])) _
      refine XS.iand X0.here hx rfl (hb hby at_71) rfl ?_
      show Steps p.tables e below (T0.setTop (mkF m 72 #[.val (.int i0), .val (.int i1), .val (.int i2), .val (.ref (n0 + ob3)), .val (.int i4), .val (.int i5), .unset, .unset] [(.int (((i0.toUInt32 >>> ((5 : Int32) &&& 31).toUInt32).toInt32) &&& (1 : Int32))), (.int (2 : Int32)), (.ref (n0 + ob3))])) _
      refine st12 _ ?_
      exact k
    exact bt0_75 hw hC X12 e12 O12 N12 (by omega) (by omega) hf
def b0_42 (D : Hp) (i0 : Int32) (ob3 : Nat) (i4 : Int32) (i5 : Int32) : Option (Int32 × Hp) :=
  if (i0 &&& (4 : Int32)) = (0 : Int32) then (b0_58 D i0 ob3 i4 i5) else ((ck D ob3 1).bind fun u10 => (f8 D ob3 (1 : Int32) (((i0.toUInt32 >>> ((3 : Int32) &&& 31).toUInt32).toInt32) &&& (1 : Int32))).bind fun D9 =>
  b0_58 D9 i0 ob3 i4 i5)
set_option maxRecDepth 65536 in
set_option maxHeartbeats 40000000 in
theorem bt0_42 {p : Program} {l : Launch} {e : Env} {s : State} {m : MethodId} {args : Array Value} {below : List Frame} {meth : Method} {c : Code} {Z : State} {a0 : Array Value} {n0 : Nat} {D' : Hp} {r : Int32} {T0 : State} {locs : List Loc} {cells slots : Nat} {h0 : Heap} {D : Hp} {i0 : Int32} {i1 : Int32} {i2 : Int32} {ob3 : Nat} {i4 : Int32} {i5 : Int32} (hw : ∀ d ∈ tables_1, d.before a0 Z = true) (hC : Cx p s m meth c Z code maxLocals ret "com/example/planar_drawing_kit/planardrawingkit/inspect/CrossingQueueRemovePinLaw" "law") (X0 : Stand p l e room_1 s m args below meth c T0 locs cells slots) (e0 : T0.heap = h0) (O0 : Ow Kt1 Z h0 n0 D) (N0 : Fr n0 locs) (hcc : cells ≤ 5) (hss : slots ≤ 36) (hf : b0_42 D i0 ob3 i4 i5 = some (r, D')) : Gl p e below s 24 128 (Qw Kt1 Z n0 (some (.int r)) D') (T0.setTop (mkF m 42 #[.val (.int i0), .val (.int i1), .val (.int i2), .val (.ref (n0 + ob3)), .val (.int i4), .val (.int i5), .unset, .unset] [])) := by
  obtain ⟨hx, hZ, hby, hml, hown, hnm, hret, hlk⟩ := id hC
  have hml : c.maxLocals = 8 := hml
  rw [b0_42] at hf
  refine Gl.on (B := T0.setTop (mkF m 45 #[.val (.int i0), .val (.int i1), .val (.int i2), .val (.ref (n0 + ob3)), .val (.int i4), .val (.int i5), .unset, .unset] [(.int (i0 &&& (4 : Int32)))])) (fun t k => ?_) ?_
  · show Steps p.tables e below (T0.setTop (mkF m 42 #[.val (.int i0), .val (.int i1), .val (.int i2), .val (.ref (n0 + ob3)), .val (.int i4), .val (.int i5), .unset, .unset] [])) _
    refine XS.iloadN X0.here hx rfl (hb hby at_42) rfl ?_
    show Steps p.tables e below (T0.setTop (mkF m 43 #[.val (.int i0), .val (.int i1), .val (.int i2), .val (.ref (n0 + ob3)), .val (.int i4), .val (.int i5), .unset, .unset] [(.int i0)])) _
    refine XS.iconst X0.here hx rfl (hb hby at_43) ?_
    show Steps p.tables e below (T0.setTop (mkF m 44 #[.val (.int i0), .val (.int i1), .val (.int i2), .val (.ref (n0 + ob3)), .val (.int i4), .val (.int i5), .unset, .unset] [(.int (4 : Int32)), (.int i0)])) _
    refine XS.iand X0.here hx rfl (hb hby at_44) rfl ?_
    exact k
  by_cases hc8 : (i0 &&& (4 : Int32)) = (0 : Int32)
  · rw [if_pos hc8] at hf
    refine Gl.on (B := T0.setTop (mkF m 58 #[.val (.int i0), .val (.int i1), .val (.int i2), .val (.ref (n0 + ob3)), .val (.int i4), .val (.int i5), .unset, .unset] [])) (fun t k => ?_) ?_
    · show Steps p.tables e below (T0.setTop (mkF m 45 #[.val (.int i0), .val (.int i1), .val (.int i2), .val (.ref (n0 + ob3)), .val (.int i4), .val (.int i5), .unset, .unset] [(.int (i0 &&& (4 : Int32)))])) _
      refine XS.ifYes X0.here hx rfl (pc0 := 45) (pc' := 58) rfl (hb hby at_45) rfl ((if0 _ _).trans (teq hc8).1) (by decide) (by decide) ?_
      exact k
    exact bt0_58 hw hC X0 e0 O0 N0 (by omega) (by omega) hf
  · rw [if_neg hc8] at hf
    obtain ⟨u10, hk9, hf⟩ := own_bind hf
    obtain ⟨D9, hq9, hf⟩ := own_bind hf
    obtain ⟨T9, h9, L9, X9, e9, O9, N9, st9⟩ := callVW X0 hx hZ (y := (⟨"com/example/planar_drawing_kit/planardrawingkit/inspect/CrossingQueue", "add", "(II)V"⟩ : MethodName)) hown (hw _ (List.mem_of_getElem? (i := 40) rfl)) (hw _ (List.mem_of_getElem? (i := 41) rfl)) (hw _ (List.mem_of_getElem? (i := 43) rfl)) (hw _ (List.mem_of_getElem? (i := 42) rfl)) (hw _ (List.mem_of_getElem? (i := 2) rfl)) (hw _ (List.mem_of_getElem? (i := 44) rfl)) (by decide) e0 O0 N0 hk9 rfl (as' := [(.int (1 : Int32)), (.int (((i0.toUInt32 >>> ((3 : Int32) &&& 31).toUInt32).toInt32) &&& (1 : Int32)))]) (ct8 hw hq9) (W := 0) (kc := 0) (ks := 0) rfl rfl (by decide) (by decide) (g := (mkF m 55 #[.val (.int i0), .val (.int i1), .val (.int i2), .val (.ref (n0 + ob3)), .val (.int i4), .val (.int i5), .unset, .unset] [(.int (((i0.toUInt32 >>> ((3 : Int32) &&& 31).toUInt32).toInt32) &&& (1 : Int32))), (.int (1 : Int32)), (.ref (n0 + ob3))])) rfl (by rw [hml]; rfl) (rest := []) (lenOf pd_4 rfl) rfl (by show 2 * 0 + _ ≤ _; exact Nat.le_of_eq rfl) (hb hby at_55) (by show _ + 0 ≤ 24; omega) (by show _ + 0 ≤ 128; omega)
    refine Gl.on (B := T9.setTop (mkF m 58 #[.val (.int i0), .val (.int i1), .val (.int i2), .val (.ref (n0 + ob3)), .val (.int i4), .val (.int i5), .unset, .unset] [])) (fun t k => ?_) ?_
    · show Steps p.tables e below (T0.setTop (mkF m 45 #[.val (.int i0), .val (.int i1), .val (.int i2), .val (.ref (n0 + ob3)), .val (.int i4), .val (.int i5), .unset, .unset] [(.int (i0 &&& (4 : Int32)))])) _
      refine XS.ifNo X0.here hx rfl (hb hby at_45) rfl ((if0 _ _).trans (feq hc8).1) ?_
      show Steps p.tables e below (T0.setTop (mkF m 48 #[.val (.int i0), .val (.int i1), .val (.int i2), .val (.ref (n0 + ob3)), .val (.int i4), .val (.int i5), .unset, .unset] [])) _
      refine XS.aloadN X0.here hx rfl (hb hby at_48) rfl rfl ?_
      show Steps p.tables e below (T0.setTop (mkF m 49 #[.val (.int i0), .val (.int i1), .val (.int i2), .val (.ref (n0 + ob3)), .val (.int i4), .val (.int i5), .unset, .unset] [(.ref (n0 + ob3))])) _
      refine XS.iconst X0.here hx rfl (hb hby at_49) ?_
      show Steps p.tables e below (T0.setTop (mkF m 50 #[.val (.int i0), .val (.int i1), .val (.int i2), .val (.ref (n0 + ob3)), .val (.int i4), .val (.int i5), .unset, .unset] [(.int (1 : Int32)), (.ref (n0 + ob3))])) _
      refine XS.iloadN X0.here hx rfl (hb hby at_50) rfl ?_
      show Steps p.tables e below (T0.setTop (mkF m 51 #[.val (.int i0), .val (.int i1), .val (.int i2), .val (.ref (n0 + ob3)), .val (.int i4), .val (.int i5), .unset, .unset] [(.int i0), (.int (1 : Int32)), (.ref (n0 + ob3))])) _
      refine XS.iconst X0.here hx rfl (hb hby at_51) ?_
      show Steps p.tables e below (T0.setTop (mkF m 52 #[.val (.int i0), .val (.int i1), .val (.int i2), .val (.ref (n0 + ob3)), .val (.int i4), .val (.int i5), .unset, .unset] [(.int (3 : Int32)), (.int i0), (.int (1 : Int32)), (.ref (n0 + ob3))])) _
      refine XS.iushr X0.here hx rfl (hb hby at_52) rfl ?_
      show Steps p.tables e below (T0.setTop (mkF m 53 #[.val (.int i0), .val (.int i1), .val (.int i2), .val (.ref (n0 + ob3)), .val (.int i4), .val (.int i5), .unset, .unset] [(.int ((i0.toUInt32 >>> ((3 : Int32) &&& 31).toUInt32).toInt32)), (.int (1 : Int32)), (.ref (n0 + ob3))])) _
      refine XS.iconst X0.here hx rfl (hb hby at_53) ?_
      show Steps p.tables e below (T0.setTop (mkF m 54 #[.val (.int i0), .val (.int i1), .val (.int i2), .val (.ref (n0 + ob3)), .val (.int i4), .val (.int i5), .unset, .unset] [(.int (1 : Int32)), (.int ((i0.toUInt32 >>> ((3 : Int32) &&& 31).toUInt32).toInt32)), (.int (1 : Int32)), (.ref (n0 + ob3))])) _
      refine XS.iand X0.here hx rfl (hb hby at_54) rfl ?_
      show Steps p.tables e below (T0.setTop (mkF m 55 #[.val (.int i0), .val (.int i1), .val (.int i2), .val (.ref (n0 + ob3)), .val (.int i4), .val (.int i5), .unset, .unset] [(.int (((i0.toUInt32 >>> ((3 : Int32) &&& 31).toUInt32).toInt32) &&& (1 : Int32))), (.int (1 : Int32)), (.ref (n0 + ob3))])) _
      refine st9 _ ?_
      exact k
    exact bt0_58 hw hC X9 e9 O9 N9 (by omega) (by omega) hf
def f0 (D : Hp) (i0 : Int32) (i1 : Int32) (i2 : Int32) : Option (Int32 × Hp) :=
  own_let (D.length) fun a1 => own_let (D ++ [(1, [.null, .null, .null, .null])]) fun D1 =>
  (f1 D1 a1 (3 : Int32) (2 : Int32)).bind fun D2 =>
  own_let ((i1 &&& (2147483647 : Int32)) % (3 : Int32)) fun v3 =>
  own_let ((i2 &&& (2147483647 : Int32)) % (3 : Int32)) fun v4 =>
  if (i0 &&& (1 : Int32)) = (0 : Int32) then (b0_42 D2 i0 a1 v3 v4) else ((ck D2 a1 1).bind fun u7 => (f8 D2 a1 (0 : Int32) (((i0.toUInt32 >>> ((1 : Int32) &&& 31).toUInt32).toInt32) &&& (1 : Int32))).bind fun D6 =>
  b0_42 D6 i0 a1 v3 v4)
theorem ef_0 (m : MethodId) (i0 : Int32) (i1 : Int32) (i2 : Int32) : entryFrame m #[(.int i0), (.int i1), (.int i2)] maxLocals = mkF m 0 #[.val (.int i0), .val (.int i1), .val (.int i2), .unset, .unset, .unset, .unset, .unset] [] := by first | (simp [entryFrame, mkF, argsToLocals, Value.category, maxLocals]; done) | rfl
set_option maxRecDepth 65536 in
set_option maxHeartbeats 40000000 in
theorem ct0 {l : Launch} {Z : State} {a0 : Array Value} (hw : ∀ d ∈ tables_1, d.before a0 Z = true) {n0 : Nat} {D D' : Hp} {i0 : Int32} {i1 : Int32} {i2 : Int32} {r : Int32} (hf : f0 D i0 i1 i2 = some (r, D')) :
    Ct Kt1 l Z x (.code x code maxLocals ret) room_1 n0 D #[(.int i0), (.int i1), (.int i2)] (some (.int r)) D' := by
  refine Ct.of (plainFor_of_name pn_0) ?_
  intro p e s m below meth c T0 h0 hC X0 e0 O0
  obtain ⟨hx, hZ, hby, hml, hown, hnm, hret, hlk⟩ := id hC
  have hml : c.maxLocals = 8 := hml
  have hown : s.vm.findClass "com/example/planar_drawing_kit/planardrawingkit/inspect/CrossingQueueRemovePinLaw" = some m.cls := hown
  have hnm : meth.name = "law" := hnm
  have N0 := Fr.nil n0
  refine Gl.on (fun t k => castTop (ef_0 m i0 i1 i2) k) ?_
  rw [f0] at hf
  obtain ⟨a1, ha1, hf⟩ := own_letE hf
  obtain ⟨D1, hD1, hf⟩ := own_letE hf
  obtain ⟨T1, h1, X1, e1, O1, st1⟩ := newW X0 hx hZ hown (hw _ (List.mem_of_getElem? (i := 0) rfl)) (hw _ (List.mem_of_getElem? (i := 1) rfl)) (hw _ (List.mem_of_getElem? (i := 2) rfl)) (lay1 hw) e0 O0 (t := 1) rfl (ds := [.null, .null, .null, .null]) (by decide) (g := (mkF m 0 #[.val (.int i0), .val (.int i1), .val (.int i2), .unset, .unset, .unset, .unset, .unset] [])) rfl (hb hby at_0) (by show _ + 1 ≤ 24; omega) (by show _ + 4 ≤ 128; omega)
  rw [ha1] at st1
  rw [hD1] at O1
  obtain ⟨D2, hq2, hf⟩ := own_bind hf
  obtain ⟨T2, h2, L2, X2, e2, O2, N2, st2⟩ := callIW X1 hx hZ (y := (⟨"com/example/planar_drawing_kit/planardrawingkit/inspect/CrossingQueue", "<init>", "(II)V"⟩ : MethodName)) rfl hown (hw _ (List.mem_of_getElem? (i := 3) rfl)) (hw _ (List.mem_of_getElem? (i := 4) rfl)) (hw _ (List.mem_of_getElem? (i := 2) rfl)) (hw _ (List.mem_of_getElem? (i := 5) rfl)) (by decide) e1 O1 N0 (as' := [(.int (3 : Int32)), (.int (2 : Int32))]) (ct1 hw hq2) (W := 1) (kc := 4) (ks := 32) rfl rfl (by decide) (by decide) (g := (mkF m 6 #[.val (.int i0), .val (.int i1), .val (.int i2), .unset, .unset, .unset, .unset, .unset] [(.int (2 : Int32)), (.int (3 : Int32)), (.ref (n0 + a1)), (.ref (n0 + a1))])) rfl (by rw [hml]; rfl) (rest := [(.ref (n0 + a1))]) (lenOf pd_4 rfl) rfl (by show 2 * 0 + _ ≤ _; exact Nat.le_of_eq rfl) (hb hby at_6) (by show _ + 4 ≤ 24; omega) (by show _ + 32 ≤ 128; omega)
  obtain ⟨v3, hv3, hf⟩ := own_letE hf
  obtain ⟨v4, hv4, hf⟩ := own_letE hf
  refine Gl.on (B := T2.setTop (mkF m 29 #[.val (.int i0), .val (.int i1), .val (.int i2), .val (.ref (n0 + a1)), .val (.int v3), .val (.int v4), .unset, .unset] [(.int (i0 &&& (1 : Int32)))])) (fun t k => ?_) ?_
  · show Steps p.tables e below (T0.setTop (mkF m 0 #[.val (.int i0), .val (.int i1), .val (.int i2), .unset, .unset, .unset, .unset, .unset] [])) _
    refine st1 _ ?_
    show Steps p.tables e below (T1.setTop (mkF m 3 #[.val (.int i0), .val (.int i1), .val (.int i2), .unset, .unset, .unset, .unset, .unset] [(.ref (n0 + a1))])) _
    refine XS.dup X1.here hx rfl (hb hby at_3) rfl rfl ?_
    show Steps p.tables e below (T1.setTop (mkF m 4 #[.val (.int i0), .val (.int i1), .val (.int i2), .unset, .unset, .unset, .unset, .unset] [(.ref (n0 + a1)), (.ref (n0 + a1))])) _
    refine XS.iconst X1.here hx rfl (hb hby at_4) ?_
    show Steps p.tables e below (T1.setTop (mkF m 5 #[.val (.int i0), .val (.int i1), .val (.int i2), .unset, .unset, .unset, .unset, .unset] [(.int (3 : Int32)), (.ref (n0 + a1)), (.ref (n0 + a1))])) _
    refine XS.iconst X1.here hx rfl (hb hby at_5) ?_
    show Steps p.tables e below (T1.setTop (mkF m 6 #[.val (.int i0), .val (.int i1), .val (.int i2), .unset, .unset, .unset, .unset, .unset] [(.int (2 : Int32)), (.int (3 : Int32)), (.ref (n0 + a1)), (.ref (n0 + a1))])) _
    refine st2 _ ?_
    show Steps p.tables e below (T2.setTop (mkF m 9 #[.val (.int i0), .val (.int i1), .val (.int i2), .unset, .unset, .unset, .unset, .unset] [(.ref (n0 + a1))])) _
    refine XS.astoreN X2.here hx rfl (hb hby at_9) rfl rfl (l' := #[.val (.int i0), .val (.int i1), .val (.int i2), .val (.ref (n0 + a1)), .unset, .unset, .unset, .unset]) rfl ?_
    show Steps p.tables e below (T2.setTop (mkF m 10 #[.val (.int i0), .val (.int i1), .val (.int i2), .val (.ref (n0 + a1)), .unset, .unset, .unset, .unset] [])) _
    refine XS.iloadN X2.here hx rfl (hb hby at_10) rfl ?_
    show Steps p.tables e below (T2.setTop (mkF m 11 #[.val (.int i0), .val (.int i1), .val (.int i2), .val (.ref (n0 + a1)), .unset, .unset, .unset, .unset] [(.int i1)])) _
    refine X2.ldcInt hx hown (mvT hZ (hw _ (List.mem_of_getElem? (i := 22) rfl))) (g := (mkF m 11 #[.val (.int i0), .val (.int i1), .val (.int i2), .val (.ref (n0 + a1)), .unset, .unset, .unset, .unset] [(.int i1)])) rfl (hb hby at_11) _ ?_
    show Steps p.tables e below (T2.setTop (mkF m 13 #[.val (.int i0), .val (.int i1), .val (.int i2), .val (.ref (n0 + a1)), .unset, .unset, .unset, .unset] [(.int (2147483647 : Int32)), (.int i1)])) _
    refine XS.iand X2.here hx rfl (hb hby at_13) rfl ?_
    show Steps p.tables e below (T2.setTop (mkF m 14 #[.val (.int i0), .val (.int i1), .val (.int i2), .val (.ref (n0 + a1)), .unset, .unset, .unset, .unset] [(.int (i1 &&& (2147483647 : Int32)))])) _
    refine XS.iconst X2.here hx rfl (hb hby at_14) ?_
    show Steps p.tables e below (T2.setTop (mkF m 15 #[.val (.int i0), .val (.int i1), .val (.int i2), .val (.ref (n0 + a1)), .unset, .unset, .unset, .unset] [(.int (3 : Int32)), (.int (i1 &&& (2147483647 : Int32)))])) _
    refine iremM X2 hx rfl (hb hby at_15) rfl (by decide) ?_
    show Steps p.tables e below (T2.setTop (mkF m 16 #[.val (.int i0), .val (.int i1), .val (.int i2), .val (.ref (n0 + a1)), .unset, .unset, .unset, .unset] [(.int ((i1 &&& (2147483647 : Int32)) % (3 : Int32)))])) _
    refine own_to (congrArg (fun z => T2.setTop (mkF m 16 #[.val (.int i0), .val (.int i1), .val (.int i2), .val (.ref (n0 + a1)), .unset, .unset, .unset, .unset] [(.int z)])) hv3) ?_
    show Steps p.tables e below (T2.setTop (mkF m 16 #[.val (.int i0), .val (.int i1), .val (.int i2), .val (.ref (n0 + a1)), .unset, .unset, .unset, .unset] [(.int v3)])) _
    refine XS.istore X2.here hx rfl (hb hby at_16) rfl (l' := #[.val (.int i0), .val (.int i1), .val (.int i2), .val (.ref (n0 + a1)), .val (.int v3), .unset, .unset, .unset]) rfl ?_
    show Steps p.tables e below (T2.setTop (mkF m 18 #[.val (.int i0), .val (.int i1), .val (.int i2), .val (.ref (n0 + a1)), .val (.int v3), .unset, .unset, .unset] [])) _
    refine XS.iloadN X2.here hx rfl (hb hby at_18) rfl ?_
    show Steps p.tables e below (T2.setTop (mkF m 19 #[.val (.int i0), .val (.int i1), .val (.int i2), .val (.ref (n0 + a1)), .val (.int v3), .unset, .unset, .unset] [(.int i2)])) _
    refine X2.ldcInt hx hown (mvT hZ (hw _ (List.mem_of_getElem? (i := 22) rfl))) (g := (mkF m 19 #[.val (.int i0), .val (.int i1), .val (.int i2), .val (.ref (n0 + a1)), .val (.int v3), .unset, .unset, .unset] [(.int i2)])) rfl (hb hby at_19) _ ?_
    show Steps p.tables e below (T2.setTop (mkF m 21 #[.val (.int i0), .val (.int i1), .val (.int i2), .val (.ref (n0 + a1)), .val (.int v3), .unset, .unset, .unset] [(.int (2147483647 : Int32)), (.int i2)])) _
    refine XS.iand X2.here hx rfl (hb hby at_21) rfl ?_
    show Steps p.tables e below (T2.setTop (mkF m 22 #[.val (.int i0), .val (.int i1), .val (.int i2), .val (.ref (n0 + a1)), .val (.int v3), .unset, .unset, .unset] [(.int (i2 &&& (2147483647 : Int32)))])) _
    refine XS.iconst X2.here hx rfl (hb hby at_22) ?_
    show Steps p.tables e below (T2.setTop (mkF m 23 #[.val (.int i0), .val (.int i1), .val (.int i2), .val (.ref (n0 + a1)), .val (.int v3), .unset, .unset, .unset] [(.int (3 : Int32)), (.int (i2 &&& (2147483647 : Int32)))])) _
    refine iremM X2 hx rfl (hb hby at_23) rfl (by decide) ?_
    show Steps p.tables e below (T2.setTop (mkF m 24 #[.val (.int i0), .val (.int i1), .val (.int i2), .val (.ref (n0 + a1)), .val (.int v3), .unset, .unset, .unset] [(.int ((i2 &&& (2147483647 : Int32)) % (3 : Int32)))])) _
    refine own_to (congrArg (fun z => T2.setTop (mkF m 24 #[.val (.int i0), .val (.int i1), .val (.int i2), .val (.ref (n0 + a1)), .val (.int v3), .unset, .unset, .unset] [(.int z)])) hv4) ?_
    show Steps p.tables e below (T2.setTop (mkF m 24 #[.val (.int i0), .val (.int i1), .val (.int i2), .val (.ref (n0 + a1)), .val (.int v3), .unset, .unset, .unset] [(.int v4)])) _
    refine XS.istore X2.here hx rfl (hb hby at_24) rfl (l' := #[.val (.int i0), .val (.int i1), .val (.int i2), .val (.ref (n0 + a1)), .val (.int v3), .val (.int v4), .unset, .unset]) rfl ?_
    show Steps p.tables e below (T2.setTop (mkF m 26 #[.val (.int i0), .val (.int i1), .val (.int i2), .val (.ref (n0 + a1)), .val (.int v3), .val (.int v4), .unset, .unset] [])) _
    refine XS.iloadN X2.here hx rfl (hb hby at_26) rfl ?_
    show Steps p.tables e below (T2.setTop (mkF m 27 #[.val (.int i0), .val (.int i1), .val (.int i2), .val (.ref (n0 + a1)), .val (.int v3), .val (.int v4), .unset, .unset] [(.int i0)])) _
    refine XS.iconst X2.here hx rfl (hb hby at_27) ?_
    show Steps p.tables e below (T2.setTop (mkF m 28 #[.val (.int i0), .val (.int i1), .val (.int i2), .val (.ref (n0 + a1)), .val (.int v3), .val (.int v4), .unset, .unset] [(.int (1 : Int32)), (.int i0)])) _
    refine XS.iand X2.here hx rfl (hb hby at_28) rfl ?_
    exact k
  by_cases hc5 : (i0 &&& (1 : Int32)) = (0 : Int32)
  · rw [if_pos hc5] at hf
    refine Gl.on (B := T2.setTop (mkF m 42 #[.val (.int i0), .val (.int i1), .val (.int i2), .val (.ref (n0 + a1)), .val (.int v3), .val (.int v4), .unset, .unset] [])) (fun t k => ?_) ?_
    · show Steps p.tables e below (T2.setTop (mkF m 29 #[.val (.int i0), .val (.int i1), .val (.int i2), .val (.ref (n0 + a1)), .val (.int v3), .val (.int v4), .unset, .unset] [(.int (i0 &&& (1 : Int32)))])) _
      refine XS.ifYes X2.here hx rfl (pc0 := 29) (pc' := 42) rfl (hb hby at_29) rfl ((if0 _ _).trans (teq hc5).1) (by decide) (by decide) ?_
      exact k
    exact bt0_42 hw hC X2 e2 O2 N2 (by omega) (by omega) hf
  · rw [if_neg hc5] at hf
    obtain ⟨u7, hk6, hf⟩ := own_bind hf
    obtain ⟨D6, hq6, hf⟩ := own_bind hf
    obtain ⟨T6, h6, L6, X6, e6, O6, N6, st6⟩ := callVW X2 hx hZ (y := (⟨"com/example/planar_drawing_kit/planardrawingkit/inspect/CrossingQueue", "add", "(II)V"⟩ : MethodName)) hown (hw _ (List.mem_of_getElem? (i := 40) rfl)) (hw _ (List.mem_of_getElem? (i := 41) rfl)) (hw _ (List.mem_of_getElem? (i := 43) rfl)) (hw _ (List.mem_of_getElem? (i := 42) rfl)) (hw _ (List.mem_of_getElem? (i := 2) rfl)) (hw _ (List.mem_of_getElem? (i := 44) rfl)) (by decide) e2 O2 N2 hk6 rfl (as' := [(.int (0 : Int32)), (.int (((i0.toUInt32 >>> ((1 : Int32) &&& 31).toUInt32).toInt32) &&& (1 : Int32)))]) (ct8 hw hq6) (W := 0) (kc := 0) (ks := 0) rfl rfl (by decide) (by decide) (g := (mkF m 39 #[.val (.int i0), .val (.int i1), .val (.int i2), .val (.ref (n0 + a1)), .val (.int v3), .val (.int v4), .unset, .unset] [(.int (((i0.toUInt32 >>> ((1 : Int32) &&& 31).toUInt32).toInt32) &&& (1 : Int32))), (.int (0 : Int32)), (.ref (n0 + a1))])) rfl (by rw [hml]; rfl) (rest := []) (lenOf pd_4 rfl) rfl (by show 2 * 0 + _ ≤ _; exact Nat.le_of_eq rfl) (hb hby at_39) (by show _ + 0 ≤ 24; omega) (by show _ + 0 ≤ 128; omega)
    refine Gl.on (B := T6.setTop (mkF m 42 #[.val (.int i0), .val (.int i1), .val (.int i2), .val (.ref (n0 + a1)), .val (.int v3), .val (.int v4), .unset, .unset] [])) (fun t k => ?_) ?_
    · show Steps p.tables e below (T2.setTop (mkF m 29 #[.val (.int i0), .val (.int i1), .val (.int i2), .val (.ref (n0 + a1)), .val (.int v3), .val (.int v4), .unset, .unset] [(.int (i0 &&& (1 : Int32)))])) _
      refine XS.ifNo X2.here hx rfl (hb hby at_29) rfl ((if0 _ _).trans (feq hc5).1) ?_
      show Steps p.tables e below (T2.setTop (mkF m 32 #[.val (.int i0), .val (.int i1), .val (.int i2), .val (.ref (n0 + a1)), .val (.int v3), .val (.int v4), .unset, .unset] [])) _
      refine XS.aloadN X2.here hx rfl (hb hby at_32) rfl rfl ?_
      show Steps p.tables e below (T2.setTop (mkF m 33 #[.val (.int i0), .val (.int i1), .val (.int i2), .val (.ref (n0 + a1)), .val (.int v3), .val (.int v4), .unset, .unset] [(.ref (n0 + a1))])) _
      refine XS.iconst X2.here hx rfl (hb hby at_33) ?_
      show Steps p.tables e below (T2.setTop (mkF m 34 #[.val (.int i0), .val (.int i1), .val (.int i2), .val (.ref (n0 + a1)), .val (.int v3), .val (.int v4), .unset, .unset] [(.int (0 : Int32)), (.ref (n0 + a1))])) _
      refine XS.iloadN X2.here hx rfl (hb hby at_34) rfl ?_
      show Steps p.tables e below (T2.setTop (mkF m 35 #[.val (.int i0), .val (.int i1), .val (.int i2), .val (.ref (n0 + a1)), .val (.int v3), .val (.int v4), .unset, .unset] [(.int i0), (.int (0 : Int32)), (.ref (n0 + a1))])) _
      refine XS.iconst X2.here hx rfl (hb hby at_35) ?_
      show Steps p.tables e below (T2.setTop (mkF m 36 #[.val (.int i0), .val (.int i1), .val (.int i2), .val (.ref (n0 + a1)), .val (.int v3), .val (.int v4), .unset, .unset] [(.int (1 : Int32)), (.int i0), (.int (0 : Int32)), (.ref (n0 + a1))])) _
      refine XS.iushr X2.here hx rfl (hb hby at_36) rfl ?_
      show Steps p.tables e below (T2.setTop (mkF m 37 #[.val (.int i0), .val (.int i1), .val (.int i2), .val (.ref (n0 + a1)), .val (.int v3), .val (.int v4), .unset, .unset] [(.int ((i0.toUInt32 >>> ((1 : Int32) &&& 31).toUInt32).toInt32)), (.int (0 : Int32)), (.ref (n0 + a1))])) _
      refine XS.iconst X2.here hx rfl (hb hby at_37) ?_
      show Steps p.tables e below (T2.setTop (mkF m 38 #[.val (.int i0), .val (.int i1), .val (.int i2), .val (.ref (n0 + a1)), .val (.int v3), .val (.int v4), .unset, .unset] [(.int (1 : Int32)), (.int ((i0.toUInt32 >>> ((1 : Int32) &&& 31).toUInt32).toInt32)), (.int (0 : Int32)), (.ref (n0 + a1))])) _
      refine XS.iand X2.here hx rfl (hb hby at_38) rfl ?_
      show Steps p.tables e below (T2.setTop (mkF m 39 #[.val (.int i0), .val (.int i1), .val (.int i2), .val (.ref (n0 + a1)), .val (.int v3), .val (.int v4), .unset, .unset] [(.int (((i0.toUInt32 >>> ((1 : Int32) &&& 31).toUInt32).toInt32) &&& (1 : Int32))), (.int (0 : Int32)), (.ref (n0 + a1))])) _
      refine st6 _ ?_
      exact k
    exact bt0_42 hw hC X6 e6 O6 N6 (by omega) (by omega) hf
theorem own_fin (x : Int32) (n : Nat) (h0 : 0 ≤ x.toInt) (h1 : x.toInt < n) : ∃ p : Fin n, x = p.1.toInt32 :=
  ⟨⟨x.toNatClampNeg, by simp only [Int32.toNatClampNeg]; omega⟩, (back32 (by rw [Int32.lt_iff_toInt_lt]; have : (0 : Int32).toInt = 0 := rfl; omega)).1.symm⟩
theorem own_modr (x n : Int32) (hn : 0 < n.toInt) : 0 ≤ ((x &&& (2147483647 : Int32)) % n).toInt ∧ ((x &&& (2147483647 : Int32)) % n).toInt < n.toInt := by
  have e1 := c_and x (2147483647 : Int32) (by decide)
  have e2 := (c_irem (x &&& (2147483647 : Int32)) n n.toInt rfl).1 e1.1
  rw [e2]
  exact ⟨Int.emod_nonneg _ (by omega), Int.emod_lt_of_pos _ hn⟩
theorem own_mm (x n : Int32) (hn : 0 < n.toInt) : ((((x &&& (2147483647 : Int32)) % n) &&& (2147483647 : Int32)) % n) = ((x &&& (2147483647 : Int32)) % n) := by
  obtain ⟨h1, h2⟩ := own_modr x n hn
  have e0 : ((2 ^ 31 : Nat) : Int) = 2147483648 := by decide
  have u := Int32.toInt_lt ((x &&& (2147483647 : Int32)) % n)
  have e1 : (((x &&& (2147483647 : Int32)) % n) &&& (2147483647 : Int32)).toInt = ((x &&& (2147483647 : Int32)) % n).toInt := by
    rw [c_mask _ 2147483647 31 (by decide) (by decide), e0]; omega
  have e2 : (((x &&& (2147483647 : Int32)) % n) &&& (2147483647 : Int32)) = ((x &&& (2147483647 : Int32)) % n) := Int32.toInt_inj.mp e1
  rw [e2]
  apply Int32.toInt_inj.mp
  rw [(c_irem _ n n.toInt rfl).1 h1]
  exact Int.emod_eq_of_lt h1 h2
theorem own_ex {α : Type} {o : Option (Int32 × α)} (h : o.map Prod.fst = some (1 : Int32)) : ∃ D', o = some ((1 : Int32), D') := by
  cases o with
  | none => cases h
  | some q => obtain ⟨x, D⟩ := q; exact ⟨D, by cases h; rfl⟩
theorem own_bit (a q : Int32) (k : Nat) (hk : q.toBitVec.toNat % 32 = k) (h0 : 0 < k) (h5 : k ≤ 5) : (((a &&& (63 : Int32)).toUInt32 >>> (q &&& 31).toUInt32).toInt32 &&& (1 : Int32)) = ((a.toUInt32 >>> (q &&& 31).toUInt32).toInt32 &&& (1 : Int32)) := by
  have e1 := c_iushr a q k hk h0
  have e2 := c_iushr (a &&& (63 : Int32)) q k hk h0
  have e3 : (a &&& (63 : Int32)).toInt = a.toInt % 64 := c_mask a 63 6 (by decide) (by decide)
  apply Int32.toInt_inj.mp
  rw [c_mask _ 1 1 (by decide) (by decide), c_mask _ 1 1 (by decide) (by decide), e1, e2, e3]
  have : k = 1 ∨ k = 2 ∨ k = 3 ∨ k = 4 ∨ k = 5 := by omega
  rcases this with rfl | rfl | rfl | rfl | rfl <;> omega
theorem own_and (a m : Int32) (hm : (63 : Int32) &&& m = m) : (a &&& (63 : Int32)) &&& m = a &&& m := by rw [Int32.and_assoc, hm]
theorem own_bit0 (a : Int32) : (a.toUInt32 >>> (((2 : Int32) * (0 : Int32)) &&& 31).toUInt32).toInt32 = a := by
  have : (((2 : Int32) * (0 : Int32)) &&& 31).toUInt32 = 0 := by decide
  rw [this]; simp
theorem own_f60 (D : Hp) (a x y k : Int32) : f6 D (a &&& (63 : Int32)) x y (0 : Int32) k = f6 D a x y (0 : Int32) k := by
  simp only [f6, b6_15, own_bit0]
  rw [own_bit a (((2 : Int32) * (0 : Int32)) + (1 : Int32)) 1 (by decide) (by decide) (by decide), own_and a 1 (by decide)]
theorem own_f61 (D : Hp) (a x y k : Int32) : f6 D (a &&& (63 : Int32)) x y (1 : Int32) k = f6 D a x y (1 : Int32) k := by
  simp only [f6, b6_15]
  rw [own_bit a ((2 : Int32) * (1 : Int32)) 2 (by decide) (by decide) (by decide), own_bit a (((2 : Int32) * (1 : Int32)) + (1 : Int32)) 3 (by decide) (by decide) (by decide)]
theorem own_f62 (D : Hp) (a x y k : Int32) : f6 D (a &&& (63 : Int32)) x y (2 : Int32) k = f6 D a x y (2 : Int32) k := by
  simp only [f6, b6_15]
  rw [own_bit a ((2 : Int32) * (2 : Int32)) 4 (by decide) (by decide) (by decide), own_bit a (((2 : Int32) * (2 : Int32)) + (1 : Int32)) 5 (by decide) (by decide) (by decide)]
theorem own_f5 (D : Hp) (o : Nat) (a x y k : Int32) : f5 D o (a &&& (63 : Int32)) x y k = f5 D o a x y k := by
  simp only [f5, b5_45, b5_66, own_f60, own_f61, own_f62]
theorem own_f0 (a r s : Int32) : f0 [] (a &&& (63 : Int32)) ((r &&& (2147483647 : Int32)) % (3 : Int32)) ((s &&& (2147483647 : Int32)) % (3 : Int32)) = f0 [] a r s := by
  simp only [f0, b0_42, b0_58, b0_75, own_f5, own_mm r 3 (by decide), own_mm s 3 (by decide), own_and a 1 (by decide), own_and a 4 (by decide), own_and a 16 (by decide), own_bit a 1 1 (by decide) (by decide) (by decide), own_bit a 3 3 (by decide) (by decide) (by decide), own_bit a 5 5 (by decide) (by decide) (by decide)]
set_option maxRecDepth 100000 in
theorem own_all : ∀ (p : Fin 64) (q r : Fin 3), (f0 [] p.1.toInt32 q.1.toInt32 r.1.toInt32).map Prod.fst = some (1 : Int32) := by decide +kernel
theorem law_ok (i0 i1 i2 : Int32) : ∃ D', f0 [] i0 i1 i2 = some ((1 : Int32), D') := by
  have e3 : (i0 &&& (63 : Int32)).toInt = i0.toInt % 64 := c_mask i0 63 6 (by decide) (by decide)
  obtain ⟨p, hp⟩ := own_fin (i0 &&& (63 : Int32)) 64 (by omega) (by omega)
  obtain ⟨a1, a2⟩ := own_modr i1 3 (by decide)
  obtain ⟨b1, b2⟩ := own_modr i2 3 (by decide)
  obtain ⟨q, hq⟩ := own_fin _ 3 a1 a2
  obtain ⟨r, hr⟩ := own_fin _ 3 b1 b2
  rw [← own_f0, hp, hq, hr]
  exact own_ex (own_all p q r)
set_option maxRecDepth 65536 in
set_option maxHeartbeats 40000000 in
theorem comes_1 {Post : Tables → Env → Array Value → State → Outcome → State → Prop} (hpost : ∀ tb e args s v u, (limb_1_1.after args s (.returned v) u = true ∧ limb_1_2.after args s (.returned v) u = true ∧ True) → FrameEnd s (.returned v) u (Jvm.fieldLocs frame_1_writes args s ++ Jvm.arrayLocs frame_1_arrays args s ++ Jvm.staticLocs frame_1_statics s) 24 128 → Post tb e args s (.returned v) u) :
    ArmFor flags0 classFile x code maxLocals ret World_1 tables_1 room_1 Calls_1 rest_1 Pre_1 Post := by
  intro l hfl _ _ p e ha hc hk s m args below hf hA hF happ hP
  obtain ⟨hcalls, hrest, hpre⟩ := hP
  obtain ⟨-, -, -, hnamed, -, -, -, hat⟩ := (Spec.applies_iff hf).mp happ
  obtain ⟨hg, hn⟩ := and_e (Cond.before_iff.mp (show (Jvm.Cond.and given_1 narrow_1).before args s = true from hpre))
  obtain ⟨g0, hg⟩ := and_e hg
  obtain ⟨gg0, hg⟩ := and_e hg
  obtain ⟨gg1, hg⟩ := and_e hg
  have gg2 := hg
  obtain ⟨w0, w1, w2, rfl⟩ : ∃ w0 w1 w2 : Value, args = #[w0, w1, w2] := by
    have hs : args.size = 3 := by simpa [Cond.value, given_1] using g0
    obtain ⟨L⟩ := args
    match L, hs with
    | [w0, w1, w2], _ => exact ⟨w0, w1, w2, rfl⟩
  have hw := fun d (hd : d ∈ tables_1) => atoms_spec (ws := Jvm.Cond.code x code maxLocals ret :: tables_1) hat d (List.mem_cons_of_mem _ hd)
  obtain ⟨i0, ei0⟩ := is_v gg0
  obtain rfl : w0 = (.int i0) := Option.some.inj ei0
  obtain ⟨i1, ei1⟩ := is_v gg1
  obtain rfl : w1 = (.int i1) := Option.some.inj ei1
  obtain ⟨i2, ei2⟩ := is_v gg2
  obtain rfl : w2 = (.int i2) := Option.some.inj ei2
  obtain ⟨D', hlaw⟩ := law_ok i0 i1 i2
  obtain ⟨n, o, h1, h2, h3, _, L, rfl, ⟨rfl, N, -⟩, hq⟩ := ct0 (l := l) hw hlaw s.heap tables_1 (own_ow0 s.heap) p e ha hc hk s m _ below hf ((Spec.applies_iff_loose hf).mp happ).1 ⟨rfl, State.Warmed39.refl s, rfl⟩ trivial
  exact ⟨n, _, h1, h2, h3, hpost _ _ _ _ _ _ ⟨Cond.after_iff.mpr rfl, Cond.after_iff.mpr (eq_i res_at (Term.int_eval (1)) rfl), trivial⟩ ⟨hq.1, hq.2.1, (hq.2.2.sift fun y hy => Or.inr (N y hy)).mono (by decide) (by decide)⟩⟩
theorem main_1_1 : Claimed_1_1 := comes_1 fun _ _ _ _ _ _ h hF => ⟨h.1, hF⟩
theorem main_1_2 : Claimed_1_2 := comes_1 fun _ _ _ _ _ _ h hF => ⟨h.2.1, hF⟩
end Jvm.Pilot.@@N@@
namespace Jvm.Pilot.@@N@@
open Jvm Jvm.ClassFile Sem Op Lib Jvm.Free Jvm.Stand Jvm.Pilot.@@N@@.Jvm.D
/-! MADE BY PROGRAM (witnessworld.py) out of the Statement's table words and the real class files: 10 classes; the members and pool entries that the words name. The judged class is class 1, her method 1. -/
namespace start1
open Jvm.ClassFile
def u (s : String) : CpInfo := .utf8 (stringToUtf16 s)
/-- a pool by its gaps: so many unusable entries, then the entry; so many at the end -/
def gap : Nat → List CpInfo → List CpInfo
  | 0, r => r
  | n + 1, r => .unusable :: gap n r
def poolList (es : List (Nat × CpInfo)) (last : Nat) : List CpInfo := es.foldr (fun e r => gap e.1 (e.2 :: r)) (gap last [])
def pool (es : List (Nat × CpInfo)) (last : Nat) : Array CpInfo := ⟨poolList es last⟩
def fileOf (pool : Array CpInfo) (this : Nat) (attrs : Array Attribute := #[]) (ms : Array MethodInfo := #[]) (fl : Nat := 33) (sup : Nat := 0) (ifs : Array Nat := #[]) (fds : Array FieldInfo := #[]) : ClassFile where
  minorVersion := 0
  majorVersion := 65
  constantPool := pool
  accessFlags := fl
  thisClass := this
  superClass := sup
  interfaces := ifs
  fields := fds
  methods := ms
  attributes := attrs
def plain (name : String) (sup : Option ClassId) : Class where
  name := name
  kind := .ordinary
  loader := none
  accessFlags := 33
  super := sup
  interfaces := #[]
  cf := none
  fields := #[]
  methods := #[]
  instanceTypes := #[]
  staticTypes := #[]
  resolved := #[]
  callSites := []
  init := .initialized
  statics := none
  mirror := none

def pool0 : Array CpInfo := pool [(5, u "<init>"), (0, u "()V"), (1, .class_ 10), (1, u "java/lang/Object")] 113

def k0c0 : Code := { maxStack := 0, maxLocals := 1, code := object_method_1_code, exceptionTable := #[], attributes := #[] }
def k0m0 : Method := { name := "<init>", desc := "()V", sig := { parameters := [], returnType := none }, accessFlags := 1, code := some k0c0 }
/-- java/lang/Object -/
def k0 : Class := { plain "java/lang/Object" none with
  accessFlags := 33
  interfaces := #[]
  cf := some (fileOf pool0 8 #[] #[{ accessFlags := 1, nameIndex := 5, descriptorIndex := 6, attributes := #[] }] 33 0 #[] #[])
  fields := #[]
  methods := #[k0m0]
  instanceTypes := #[]
  staticTypes := #[]
  resolved := Array.replicate 124 none
  statics := none }

def pool1 : Array CpInfo := pool [(2, .class_ 4), (1, u "java/lang/Object"), (0, u "<init>"), (0, u "()V"), (0, .class_ 8), (0, u "com/example/planar_drawing_kit/planardrawingkit/inspect/CrossingQueue"), (0, .methodref 7 10), (0, .nameAndType 5 11), (0, u "(II)V"), (0, .integer 2147483647), (0, .methodref 7 14), (0, .nameAndType 15 11), (0, u "add"), (0, .methodref 7 17), (0, .nameAndType 18 19), (0, u "remove"), (0, u "(I)V"), (0, .methodref 21 22), (0, .class_ 23), (0, .nameAndType 24 25), (0, u "com/example/planar_drawing_kit/planardrawingkit/inspect/CrossingQueueRemovePinLaw"), (0, u "drains"), (0, u "(Lcom/example/planar_drawing_kit/planardrawingkit/inspect/CrossingQueue;IIII)Z"), (0, .methodref 21 27), (0, .nameAndType 28 29), (0, u "stays"), (0, u "(IIIII)Z"), (0, .methodref 7 31), (0, .nameAndType 32 33), (0, u "poll"), (0, u "(I)I"), (2, u "law"), (0, u "(III)Z")] 5

def k1m0 : Method := { name := "<init>", desc := "()V", sig := { parameters := [], returnType := none }, accessFlags := 1, code := none }
def k1c1 : Code := { maxStack := 5, maxLocals := 8, code := code, exceptionTable := #[], attributes := #[] }
def k1m1 : Method := { name := "law", desc := "(III)Z", sig := { parameters := [.int, .int, .int], returnType := some .boolean }, accessFlags := 9, code := some k1c1 }
def k1c2 : Code := { maxStack := 3, maxLocals := 7, code := method_3_code, exceptionTable := #[], attributes := #[] }
def k1m2 : Method := { name := "stays", desc := "(IIIII)Z", sig := { parameters := [.int, .int, .int, .int, .int], returnType := some .boolean }, accessFlags := 10, code := some k1c2 }
def k1c3 : Code := { maxStack := 5, maxLocals := 8, code := method_4_code, exceptionTable := #[], attributes := #[] }
def k1m3 : Method := { name := "drains", desc := "(Lcom/example/planar_drawing_kit/planardrawingkit/inspect/CrossingQueue;IIII)Z", sig := { parameters := [(.object "com/example/planar_drawing_kit/planardrawingkit/inspect/CrossingQueue"), .int, .int, .int, .int], returnType := some .boolean }, accessFlags := 10, code := some k1c3 }
/-- com/example/planar_drawing_kit/planardrawingkit/inspect/CrossingQueueRemovePinLaw -/
def k1 : Class := { plain "com/example/planar_drawing_kit/planardrawingkit/inspect/CrossingQueueRemovePinLaw" (some 0) with
  accessFlags := 49
  interfaces := #[]
  cf := some (fileOf pool1 21 #[] #[{ accessFlags := 1, nameIndex := 5, descriptorIndex := 6, attributes := #[] }, { accessFlags := 9, nameIndex := 36, descriptorIndex := 37, attributes := #[] }, { accessFlags := 10, nameIndex := 28, descriptorIndex := 29, attributes := #[] }, { accessFlags := 10, nameIndex := 24, descriptorIndex := 25, attributes := #[] }] 49 2 #[] #[])
  fields := #[]
  methods := #[k1m0, k1m1, k1m2, k1m3]
  instanceTypes := #[]
  staticTypes := #[]
  resolved := Array.replicate 43 none
  statics := none }

def pool2 : Array CpInfo := pool [(3, .methodref 4 5), (0, .class_ 6), (0, .nameAndType 7 8), (0, u "java/lang/Object"), (0, u "<init>"), (0, u "()V"), (0, .fieldref 10 11), (0, .class_ 12), (0, .nameAndType 13 14), (0, u "com/example/planar_drawing_kit/planardrawingkit/inspect/CrossingQueue"), (0, u "firstAt"), (0, u "[I"), (0, .fieldref 10 16), (0, .nameAndType 17 14), (0, u "next"), (0, .fieldref 10 19), (0, .nameAndType 20 14), (0, u "previous"), (0, .fieldref 10 22), (0, .nameAndType 23 14), (0, u "rankOf"), (0, .methodref 25 26), (0, .class_ 27), (0, .nameAndType 28 29), (0, u "java/util/Arrays"), (0, u "fill"), (0, u "([II)V"), (0, .methodref 10 31), (0, .nameAndType 32 33), (0, u "remove"), (0, u "(I)V"), (0, u "NONE"), (0, u "I"), (2, u "(II)V"), (2, u "add"), (1, u "poll"), (0, u "(I)I")] 2

def k2c0 : Code := { maxStack := 2, maxLocals := 3, code := prog_93_method_1_code, exceptionTable := #[], attributes := #[] }
def k2m0 : Method := { name := "<init>", desc := "(II)V", sig := { parameters := [.int, .int], returnType := none }, accessFlags := 0, code := some k2c0 }
def k2c1 : Code := { maxStack := 3, maxLocals := 4, code := prog_93_method_2_code, exceptionTable := #[], attributes := #[] }
def k2m1 : Method := { name := "add", desc := "(II)V", sig := { parameters := [.int, .int], returnType := none }, accessFlags := 0, code := some k2c1 }
def k2c2 : Code := { maxStack := 4, maxLocals := 3, code := prog_93_method_3_code, exceptionTable := #[], attributes := #[] }
def k2m2 : Method := { name := "remove", desc := "(I)V", sig := { parameters := [.int], returnType := none }, accessFlags := 0, code := some k2c2 }
def k2c3 : Code := { maxStack := 2, maxLocals := 3, code := prog_93_method_4_code, exceptionTable := #[], attributes := #[] }
def k2m3 : Method := { name := "poll", desc := "(I)I", sig := { parameters := [.int], returnType := some .int }, accessFlags := 0, code := some k2c3 }
/-- com/example/planar_drawing_kit/planardrawingkit/inspect/CrossingQueue -/
def k2 : Class := { plain "com/example/planar_drawing_kit/planardrawingkit/inspect/CrossingQueue" (some 0) with
  accessFlags := 32
  interfaces := #[]
  cf := some (fileOf pool2 10 #[] #[{ accessFlags := 0, nameIndex := 7, descriptorIndex := 38, attributes := #[] }, { accessFlags := 0, nameIndex := 41, descriptorIndex := 38, attributes := #[] }, { accessFlags := 0, nameIndex := 32, descriptorIndex := 33, attributes := #[] }, { accessFlags := 0, nameIndex := 43, descriptorIndex := 44, attributes := #[] }] 32 4 #[] #[{ accessFlags := 26, nameIndex := 34, descriptorIndex := 35, attributes := #[] }, { accessFlags := 18, nameIndex := 13, descriptorIndex := 14, attributes := #[] }, { accessFlags := 18, nameIndex := 17, descriptorIndex := 14, attributes := #[] }, { accessFlags := 18, nameIndex := 20, descriptorIndex := 14, attributes := #[] }, { accessFlags := 18, nameIndex := 23, descriptorIndex := 14, attributes := #[] }])
  fields := #[{ name := "NONE", type := .int, accessFlags := 26, slot := 0, constantValue := 0 }, { name := "firstAt", type := (.array .int), accessFlags := 18, slot := 0, constantValue := 0 }, { name := "next", type := (.array .int), accessFlags := 18, slot := 1, constantValue := 0 }, { name := "previous", type := (.array .int), accessFlags := 18, slot := 2, constantValue := 0 }, { name := "rankOf", type := (.array .int), accessFlags := 18, slot := 3, constantValue := 0 }]
  methods := #[k2m0, k2m1, k2m2, k2m3]
  instanceTypes := #[(.array .int), (.array .int), (.array .int), (.array .int)]
  staticTypes := #[.int]
  resolved := Array.replicate 47 none
  statics := none }

def pool3 : Array CpInfo := pool [(2, .class_ 4), (1, u "java/lang/Object"), (0, u "<init>"), (0, u "()V"), (7, .class_ 16), (1, u "java/util/Arrays"), (57, .class_ 76), (1, u "java/util/Arrays$NaturalOrder"), (36, .class_ 115), (1, u "java/util/Arrays$LegacyMergeSort"), (1, u "Z"), (257, .class_ 376), (0, u "java/util/Arrays$ArrayList"), (68, u "$assertionsDisabled"), (269, u "MIN_ARRAY_SORT_GRAN"), (0, u "I"), (2, u "INSERTIONSORT_THRESHOLD"), (120, u "fill"), (4, u "([II)V"), (129, .class_ 976), (0, u "java/util/Arrays$ArrayItr")] 52

def k3m0 : Method := { name := "<init>", desc := "()V", sig := { parameters := [], returnType := none }, accessFlags := 2, code := none }
def k3c1 : Code := { maxStack := 3, maxLocals := 4, code := jdk_65_method_103_code, exceptionTable := #[], attributes := #[] }
def k3m1 : Method := { name := "fill", desc := "([II)V", sig := { parameters := [(.array .int), .int], returnType := none }, accessFlags := 9, code := some k3c1 }
/-- java/util/Arrays -/
def k3 : Class := { plain "java/util/Arrays" (some 0) with
  accessFlags := 49
  interfaces := #[]
  cf := some (fileOf pool3 14 #[.nestMembers #[975, 375, 113, 74]] #[{ accessFlags := 2, nameIndex := 5, descriptorIndex := 6, attributes := #[] }, { accessFlags := 9, nameIndex := 840, descriptorIndex := 845, attributes := #[] }] 49 2 #[] #[{ accessFlags := 26, nameIndex := 715, descriptorIndex := 716, attributes := #[] }, { accessFlags := 26, nameIndex := 719, descriptorIndex := 716, attributes := #[] }, { accessFlags := 4120, nameIndex := 445, descriptorIndex := 117, attributes := #[] }])
  fields := #[{ name := "MIN_ARRAY_SORT_GRAN", type := .int, accessFlags := 26, slot := 0, constantValue := 0 }, { name := "INSERTIONSORT_THRESHOLD", type := .int, accessFlags := 26, slot := 1, constantValue := 0 }, { name := "$assertionsDisabled", type := .boolean, accessFlags := 4120, slot := 2, constantValue := 0 }]
  methods := #[k3m0, k3m1]
  instanceTypes := #[]
  staticTypes := #[.int, .int, .boolean]
  resolved := Array.replicate 1029 none
  statics := none }

def pool4 : Array CpInfo := pool [(1, u "java/lang/Cloneable"), (0, .class_ 1), (0, u "java/lang/Object"), (0, .class_ 3)] 3

/-- java/lang/Cloneable -/
def k4 : Class := { plain "java/lang/Cloneable" (some 0) with
  accessFlags := 1537
  interfaces := #[]
  cf := some (fileOf pool4 2 #[] #[] 1537 4 #[] #[])
  fields := #[]
  methods := #[]
  instanceTypes := #[]
  staticTypes := #[]
  resolved := Array.replicate 8 none
  statics := none }

def pool5 : Array CpInfo := pool [(1, u "java/io/Serializable"), (0, .class_ 1), (0, u "java/lang/Object"), (0, .class_ 3)] 3

/-- java/io/Serializable -/
def k5 : Class := { plain "java/io/Serializable" (some 0) with
  accessFlags := 1537
  interfaces := #[]
  cf := some (fileOf pool5 2 #[] #[] 1537 4 #[] #[])
  fields := #[]
  methods := #[]
  instanceTypes := #[]
  staticTypes := #[]
  resolved := Array.replicate 8 none
  statics := none }

/-- the primitive byte -/
def k6 : Class := { plain "byte" none with kind := .primitive 'B', accessFlags := 0x411 }
/-- [B -/
def k7 : Class := { plain "[B" (some 0) with kind := .array 6 .byte, interfaces := #[4, 5], accessFlags := 1041 }

/-- the primitive int -/
def k8 : Class := { plain "int" none with kind := .primitive 'I', accessFlags := 0x411 }
/-- [I -/
def k9 : Class := { plain "[I" (some 0) with kind := .array 8 .int, interfaces := #[4, 5], accessFlags := 1041 }

def heap : Heap := #[]
def classes : Array Class := #[k0, k1, k2, k3, k4, k5, k6, k7, k8, k9]
def interned : List (Array UInt16 × Addr) := []
def slotsUsed : Nat := 0
def theMethod : MethodId := ⟨1, 1⟩
def args0 : Array Value := #[.int 5, .int 7, .int 9]
def aboutOver (below : List Frame) : State where
  vm := { classes := classes, interned := interned.toArray }
  heap := heap
  slotsUsed := slotsUsed
  threads := #[{ frames := .invoking theMethod args0 :: below }]
def below0 : List Frame := [.native { method := ⟨0, 0⟩, args := #[] }]
def about1 : State := aboutOver below0
def p0 : Program := .bare "" "" ""
def e0 : Env := launch0.env 0 0 0
theorem w_frames : about1.frames = Frame.invoking theMethod args0 :: below0 := rfl
set_option maxRecDepth 65536 in
theorem w_args : argsFit about1.vm theMethod args0 = true := by decide +kernel
set_option maxRecDepth 65536 in
theorem w_heap : heapFits about1 = true := by decide +kernel
set_option maxRecDepth 65536 in
theorem w_runnable : about1.curStatus? = some .runnable := by decide +kernel
set_option maxRecDepth 65536 in
theorem w_alone : about1.alone = true := by decide +kernel
set_option maxRecDepth 65536 in
theorem w_named : about1.methodNamed? x = some theMethod := by decide +kernel
set_option maxRecDepth 65536 in
theorem w_hears : about1.hears theMethod below0 = true := by decide +kernel
set_option maxRecDepth 65536 in
theorem w_ripe : about1.ripe theMethod args0 below0 = true := by decide +kernel
theorem w_running : about1.status = .running := rfl
set_option maxRecDepth 65536 in
theorem w_room : about1.hasRoom e0.platform room_1 = true :=
  launch0.hasRoom_least _ room_1 (by decide +kernel) (by decide +kernel) (by decide +kernel) (by decide +kernel) (by decide +kernel) (by decide +kernel)
theorem allAtoms_all (ts : List Jvm.Cond) (a : Array Jvm.Value) (st : Jvm.State) : (allAtoms ts).before a st = ts.all (fun c => c.before a st) := by
  induction ts with
  | nil => rfl
  | cons c t ih =>
    show (Jvm.Cond.and c (allAtoms t)).before a st = _
    rw [Jvm.Cond.before_and, ih, List.all_cons]
def words1 : List Jvm.Cond := Jvm.Cond.code x code maxLocals ret :: tables_1
/-- a 'code' word, met by the world's own term for the bytes: nothing is compared byte by byte -/
theorem code_word {y : MethodName} {bytes : ByteArray} {mx : Nat} {rt : Option FieldType} {a : Array Value} {s : State} {m : MethodId} {meth : Method} {c : Code} (h1 : s.methodNamed? y = some m) (h2 : s.vm.method? m = some meth) (h3 : meth.code = some c) (h4 : c.code = bytes)
    (h5 : (c.maxLocals == mx && c.exceptionTable.isEmpty && decide (c.maxStack ≤ mostOperands) && decide (meth.sig.returnType = rt) && !meth.locks && decide (parseMethodDescriptor y.desc = some meth.sig)) = true) : (Jvm.Cond.code y bytes mx rt).before a s = true := by
  simp only [Bool.and_eq_true, beq_iff_eq, Bool.not_eq_true', decide_eq_true_eq] at h5
  obtain ⟨⟨⟨⟨⟨g1, g2⟩, g3⟩, g4⟩, g5⟩, g6⟩ := h5
  simp [Cond.before, Cond.holds, Cond.value, h1, h2, h3, h4, g1, g2, g3, g4, g5, g6]
def isCode : Jvm.Cond → Bool
  | .code _ _ _ _ => true
  | _ => false
theorem all_split {L : List Jvm.Cond} {P : Jvm.Cond → Bool} (h1 : L.all (fun c => isCode c || P c) = true) (h2 : ∀ c ∈ L.filter isCode, P c = true) : L.all P = true := by
  refine List.all_eq_true.mpr fun c hc => ?_
  have h := List.all_eq_true.mp h1 c hc
  rcases Bool.eq_false_or_eq_true (isCode c) with hi | hi
  · exact h2 c (List.mem_filter.mpr ⟨hc, hi⟩)
  · simpa [hi] using h
set_option maxRecDepth 65536 in
theorem w_c0 : (Jvm.Cond.code x code maxLocals ret).before args0 about1 = true := code_word (m := ⟨1, 1⟩) (meth := k1m1) (c := k1c1) (by decide +kernel) rfl rfl rfl (by decide +kernel)
set_option maxRecDepth 65536 in
theorem w_c1 : (Jvm.Cond.code ({ cls := "com/example/planar_drawing_kit/planardrawingkit/inspect/CrossingQueue", name := "<init>", desc := "(II)V" } : Jvm.MethodName) prog_93_method_1_code (3 : Nat) (Option.none : Option Jvm.ClassFile.FieldType)).before args0 about1 = true := code_word (m := ⟨2, 0⟩) (meth := k2m0) (c := k2c0) (by decide +kernel) rfl rfl rfl (by decide +kernel)
set_option maxRecDepth 65536 in
theorem w_c2 : (Jvm.Cond.code ({ cls := "java/lang/Object", name := "<init>", desc := "()V" } : Jvm.MethodName) object_method_1_code (1 : Nat) (Option.none : Option Jvm.ClassFile.FieldType)).before args0 about1 = true := code_word (m := ⟨0, 0⟩) (meth := k0m0) (c := k0c0) (by decide +kernel) rfl rfl rfl (by decide +kernel)
set_option maxRecDepth 65536 in
theorem w_c3 : (Jvm.Cond.code ({ cls := "java/util/Arrays", name := "fill", desc := "([II)V" } : Jvm.MethodName) jdk_65_method_103_code (4 : Nat) (Option.none : Option Jvm.ClassFile.FieldType)).before args0 about1 = true := code_word (m := ⟨3, 1⟩) (meth := k3m1) (c := k3c1) (by decide +kernel) rfl rfl rfl (by decide +kernel)
set_option maxRecDepth 65536 in
theorem w_c4 : (Jvm.Cond.code ({ cls := "com/example/planar_drawing_kit/planardrawingkit/inspect/CrossingQueue", name := "remove", desc := "(I)V" } : Jvm.MethodName) prog_93_method_3_code (3 : Nat) (Option.none : Option Jvm.ClassFile.FieldType)).before args0 about1 = true := code_word (m := ⟨2, 2⟩) (meth := k2m2) (c := k2c2) (by decide +kernel) rfl rfl rfl (by decide +kernel)
set_option maxRecDepth 65536 in
theorem w_c5 : (Jvm.Cond.code ({ cls := "com/example/planar_drawing_kit/planardrawingkit/inspect/CrossingQueueRemovePinLaw", name := "drains", desc := "(Lcom/example/planar_drawing_kit/planardrawingkit/inspect/CrossingQueue;IIII)Z" } : Jvm.MethodName) method_4_code (8 : Nat) (Option.some Jvm.ClassFile.FieldType.boolean)).before args0 about1 = true := code_word (m := ⟨1, 3⟩) (meth := k1m3) (c := k1c3) (by decide +kernel) rfl rfl rfl (by decide +kernel)
set_option maxRecDepth 65536 in
theorem w_c6 : (Jvm.Cond.code ({ cls := "com/example/planar_drawing_kit/planardrawingkit/inspect/CrossingQueueRemovePinLaw", name := "stays", desc := "(IIIII)Z" } : Jvm.MethodName) method_3_code (7 : Nat) (Option.some Jvm.ClassFile.FieldType.boolean)).before args0 about1 = true := code_word (m := ⟨1, 2⟩) (meth := k1m2) (c := k1c2) (by decide +kernel) rfl rfl rfl (by decide +kernel)
set_option maxRecDepth 65536 in
theorem w_c7 : (Jvm.Cond.code ({ cls := "com/example/planar_drawing_kit/planardrawingkit/inspect/CrossingQueue", name := "poll", desc := "(I)I" } : Jvm.MethodName) prog_93_method_4_code (3 : Nat) (Option.some Jvm.ClassFile.FieldType.int)).before args0 about1 = true := code_word (m := ⟨2, 3⟩) (meth := k2m3) (c := k2c3) (by decide +kernel) rfl rfl rfl (by decide +kernel)
set_option maxRecDepth 65536 in
theorem w_c8 : (Jvm.Cond.code ({ cls := "com/example/planar_drawing_kit/planardrawingkit/inspect/CrossingQueue", name := "add", desc := "(II)V" } : Jvm.MethodName) prog_93_method_2_code (4 : Nat) (Option.none : Option Jvm.ClassFile.FieldType)).before args0 about1 = true := code_word (m := ⟨2, 1⟩) (meth := k2m1) (c := k2c1) (by decide +kernel) rfl rfl rfl (by decide +kernel)
def codes1 : List Jvm.Cond := [Jvm.Cond.code x code maxLocals ret, Jvm.Cond.code ({ cls := "com/example/planar_drawing_kit/planardrawingkit/inspect/CrossingQueue", name := "<init>", desc := "(II)V" } : Jvm.MethodName) prog_93_method_1_code (3 : Nat) (Option.none : Option Jvm.ClassFile.FieldType), Jvm.Cond.code ({ cls := "java/lang/Object", name := "<init>", desc := "()V" } : Jvm.MethodName) object_method_1_code (1 : Nat) (Option.none : Option Jvm.ClassFile.FieldType), Jvm.Cond.code ({ cls := "java/util/Arrays", name := "fill", desc := "([II)V" } : Jvm.MethodName) jdk_65_method_103_code (4 : Nat) (Option.none : Option Jvm.ClassFile.FieldType), Jvm.Cond.code ({ cls := "com/example/planar_drawing_kit/planardrawingkit/inspect/CrossingQueue", name := "remove", desc := "(I)V" } : Jvm.MethodName) prog_93_method_3_code (3 : Nat) (Option.none : Option Jvm.ClassFile.FieldType), Jvm.Cond.code ({ cls := "com/example/planar_drawing_kit/planardrawingkit/inspect/CrossingQueueRemovePinLaw", name := "drains", desc := "(Lcom/example/planar_drawing_kit/planardrawingkit/inspect/CrossingQueue;IIII)Z" } : Jvm.MethodName) method_4_code (8 : Nat) (Option.some Jvm.ClassFile.FieldType.boolean), Jvm.Cond.code ({ cls := "com/example/planar_drawing_kit/planardrawingkit/inspect/CrossingQueueRemovePinLaw", name := "stays", desc := "(IIIII)Z" } : Jvm.MethodName) method_3_code (7 : Nat) (Option.some Jvm.ClassFile.FieldType.boolean), Jvm.Cond.code ({ cls := "com/example/planar_drawing_kit/planardrawingkit/inspect/CrossingQueue", name := "poll", desc := "(I)I" } : Jvm.MethodName) prog_93_method_4_code (3 : Nat) (Option.some Jvm.ClassFile.FieldType.int), Jvm.Cond.code ({ cls := "com/example/planar_drawing_kit/planardrawingkit/inspect/CrossingQueue", name := "add", desc := "(II)V" } : Jvm.MethodName) prog_93_method_2_code (4 : Nat) (Option.none : Option Jvm.ClassFile.FieldType)]
set_option maxRecDepth 65536 in
theorem codes_eq : words1.filter isCode = codes1 := rfl
theorem w_codes : ∀ c ∈ words1.filter isCode, c.before args0 about1 = true := by
  rw [codes_eq]
  intro c hc
  simp only [codes1, List.mem_cons, List.not_mem_nil, or_false] at hc
  rcases hc with rfl | rfl | rfl | rfl | rfl | rfl | rfl | rfl | rfl
  · exact w_c0
  · exact w_c1
  · exact w_c2
  · exact w_c3
  · exact w_c4
  · exact w_c5
  · exact w_c6
  · exact w_c7
  · exact w_c8
set_option maxRecDepth 65536 in
theorem w_t1 : (words1.take 24).all (fun c => isCode c || c.before args0 about1) = true := by decide +kernel
set_option maxRecDepth 65536 in
theorem w_t2 : (words1.drop 24).all (fun c => isCode c || c.before args0 about1) = true := by decide +kernel
theorem w_tables : (allAtoms (Jvm.Cond.code x code maxLocals ret :: tables_1)).before args0 about1 = true := by
  rw [allAtoms_all]
  show words1.all (fun c => c.before args0 about1) = true
  refine all_split ?_ w_codes
  rw [← List.take_append_drop 24 words1, List.all_append, w_t1, w_t2]
  rfl
set_option maxRecDepth 65536 in
theorem w_case : (Jvm.Cond.and given_1 narrow_1).before args0 about1 = true := by decide +kernel
theorem w_applies : (headSpec (Jvm.Cond.code x code maxLocals ret :: tables_1) room_1).applies x e0.platform about1 = true :=
  (Spec.applies_iff w_frames).mpr ⟨w_running, w_runnable, w_alone, w_named, w_hears, w_ripe, w_room, w_tables⟩
theorem atStart : AtStart classFile x code maxLocals ret World_1 tables_1 room_1 Calls_1 rest_1 Pre_1 launch0 p0 e0 about1 theMethod args0 below0 :=
  ⟨lists_1, trivial, launch0.admits_env _ _ _, launch0.least_env, fairChoices_fair.cas, fairChoices_fair.clock, w_frames, w_args, w_heap, w_applies, trivial, trivial, w_case⟩
end start1
theorem witness_1 : WitnessClaimed_1 := ⟨start1.p0, start1.e0, start1.about1, start1.theMethod, start1.args0, start1.below0, start1.atStart⟩
end Jvm.Pilot.@@N@@
