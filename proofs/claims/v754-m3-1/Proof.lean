import JvmDerived
import JvmDerived.Pilot.@@N@@Statement
import JvmDerived.Pilot.@@N@@Code
set_option linter.unusedVariables false
set_option linter.unusedSimpArgs false

namespace Jvm.Pilot.@@N@@
open Jvm Jvm.ClassFile Sem Op Lib Jvm.Free Jvm.Stand Jvm.LawKit Jvm.RoadKit Bundle Jvm.Pilot.@@N@@.Jvm.D
/-! 1. the goal of a walk, and its steps -/
section OwnGoal
variable {p : Program} {l : Launch} {e : Env} {R : Room} {s : State} {m : MethodId} {args : Array Value} {below : List Frame} {meth : Method} {c : Code} {T : State} {locs : List Loc} {cells slots : Nat}
/-- from the state S the body returns, P holds of what it leaves, and the frame is kept -/
def Gl (p : Program) (e : Env) (below : List Frame) (s : State) (kc ks : Nat) (P : Option Value → Heap → List Loc → Prop) (S : State) : Prop :=
  ∃ t o, Steps p.tables e below S t ∧ t.status = .running ∧ Ended t below o ∧ ∃ v L, o = .returned v ∧ P v t.heap L ∧ FrameEnd s o t L kc ks
variable {kc ks : Nat} {P : Option Value → Heap → List Loc → Prop}
theorem Gl.on {A B : State} (h : ∀ t, Steps p.tables e below B t → Steps p.tables e below A t) (k : Gl p e below s kc ks P B) : Gl p e below s kc ks P A := by
  obtain ⟨t, o, h1, h2⟩ := k
  exact ⟨t, o, h t h1, h2⟩
theorem own_to {tb : Tables} {A B t : State} (q : A = B) (k : Steps tb e below B t) : Steps tb e below A t := q ▸ k
theorem Gl.out (X : Stand p l e R s m args below meth c T locs cells slots) (hx : p.tables.exec = Jvm.exec) (hlk : meth.locks = false) {pc : Nat} {Ls : Array Slot} {w : Value} {t : FieldType} {i : Instr} {rest : List Value} (hret : meth.sig.returnType = some t) (hn : narrow t w = w)
    (hi : (i = .ireturn ∧ (t = .int ∨ t = .boolean ∨ t = .byte ∨ t = .char ∨ t = .short) ∧ ∃ z, w = .int z) ∨ (i = .lreturn ∧ t = .long ∧ ∃ z, w = .long z) ∨ (i = .dreturn ∧ t = .double ∧ ∃ z, w = .double z) ∨ (i = .freturn ∧ t = .float ∧ ∃ z, w = .float z) ∨ (i = .areturn ∧ t.isReference = true ∧ w.isRef = true))
    (hd : decode c.code pc = .ok (i, 1)) (hP : P (some w) T.heap locs) (hc : cells ≤ kc) (hs : slots ≤ ks) : Gl p e below s kc ks P (T.setTop (mkF m pc Ls (w :: rest))) := by
  obtain ⟨fs, hr, hrun, hended, hW, hsame⟩ := X.leave (v := some w) (fun h => by rw [hret] at h; cases h) hlk
  exact ⟨_, _, retOut X hx hret hn hi hd hr, hrun, hended, _, _, rfl, hP, ⟨_, rfl⟩, hW, hsame.mono hc hs⟩
theorem Gl.outI (X : Stand p l e R s m args below meth c T locs cells slots) (hx : p.tables.exec = Jvm.exec) (hlk : meth.locks = false) {pc : Nat} {Ls : Array Slot} {z : Int32} {rest : List Value} (hret : meth.sig.returnType = some .int)
    (hd : decode c.code pc = .ok (.ireturn, 1)) (hP : P (some (.int z)) T.heap locs) (hc : cells ≤ kc) (hs : slots ≤ ks) : Gl p e below s kc ks P (T.setTop (mkF m pc Ls (.int z :: rest))) :=
  Gl.out X hx hlk hret rfl (Or.inl ⟨rfl, Or.inl rfl, z, rfl⟩) hd hP hc hs
theorem Gl.outJ (X : Stand p l e R s m args below meth c T locs cells slots) (hx : p.tables.exec = Jvm.exec) (hlk : meth.locks = false) {pc : Nat} {Ls : Array Slot} {z : Int64} {rest : List Value} (hret : meth.sig.returnType = some .long)
    (hd : decode c.code pc = .ok (.lreturn, 1)) (hP : P (some (.long z)) T.heap locs) (hc : cells ≤ kc) (hs : slots ≤ ks) : Gl p e below s kc ks P (T.setTop (mkF m pc Ls (.long z :: rest))) :=
  Gl.out X hx hlk hret rfl (Or.inr (Or.inl ⟨rfl, rfl, z, rfl⟩)) hd hP hc hs
theorem Gl.outR (X : Stand p l e R s m args below meth c T locs cells slots) (hx : p.tables.exec = Jvm.exec) (hlk : meth.locks = false) {pc : Nat} {Ls : Array Slot} {a : Addr} {t : FieldType} {rest : List Value} (hret : meth.sig.returnType = some t) (ht : t.isReference = true)
    (hd : decode c.code pc = .ok (.areturn, 1)) (hP : P (some (.ref a)) T.heap locs) (hc : cells ≤ kc) (hs : slots ≤ ks) : Gl p e below s kc ks P (T.setTop (mkF m pc Ls (.ref a :: rest))) :=
  Gl.out X hx hlk hret (by cases t <;> first | rfl | cases ht) (Or.inr (Or.inr (Or.inr (Or.inr ⟨rfl, ht, rfl⟩)))) hd hP hc hs
theorem Gl.outN (X : Stand p l e R s m args below meth c T locs cells slots) (hx : p.tables.exec = Jvm.exec) (hlk : meth.locks = false) {pc : Nat} {Ls : Array Slot} {z : Int32} {t : FieldType} {rest : List Value} (hret : meth.sig.returnType = some t) (ht : t = .boolean ∨ t = .byte ∨ t = .char ∨ t = .short)
    (hd : decode c.code pc = .ok (.ireturn, 1)) (hP : P (some (.int (nar t z))) T.heap locs) (hc : cells ≤ kc) (hs : slots ≤ ks) : Gl p e below s kc ks P (T.setTop (mkF m pc Ls (.int z :: rest))) := by
  obtain ⟨fs, hr, hrun, hended, hW, hsame⟩ := X.leave (v := some (.int (nar t z))) (fun h => by rw [hret] at h; cases h) hlk
  exact ⟨_, _, retN X hx hret ht hd hr, hrun, hended, _, _, rfl, hP, ⟨_, rfl⟩, hW, hsame.mono hc hs⟩
theorem Gl.outV (X : Stand p l e R s m args below meth c T locs cells slots) (hx : p.tables.exec = Jvm.exec) (hlk : meth.locks = false) {pc : Nat} {Ls : Array Slot} (hret : meth.sig.returnType = none)
    (hd : decode c.code pc = .ok (.return_, 1)) (hP : P none T.heap locs) (hc : cells ≤ kc) (hs : slots ≤ ks) : Gl p e below s kc ks P (T.setTop (mkF m pc Ls [])) := by
  obtain ⟨fs, hr, hrun, hended, hW, hsame⟩ := X.leave (v := none) (fun _ => rfl) hlk
  exact ⟨_, _, X.returnOut hx hret hd hr, hrun, hended, _, _, rfl, hP, ⟨_, rfl⟩, hW, hsame.mono hc hs⟩
end OwnGoal
theorem own_inj {α β : Type} {a b : α} {c d : β} (h : some (a, c) = some (b, d)) : a = b ∧ c = d := by cases h; exact ⟨rfl, rfl⟩
theorem own_inj1 {α : Type} {a b : α} (h : some a = some b) : a = b := by cases h; rfl
def own_let {α β : Type} (a : α) (f : α → β) : β := f a
theorem own_letE {α β : Type} {a : α} {f : α → β} {b : β} (h : own_let a f = b) : ∃ x, a = x ∧ f x = b := ⟨a, rfl, h⟩
theorem own_bind {α β : Type} {o : Option α} {f : α → Option β} {b : β} (h : o.bind f = some b) : ∃ x, o = some x ∧ f x = some b := by
  cases o with
  | none => cases h
  | some x => exact ⟨x, rfl, h⟩
/-! 2. what the law has made: a list of objects, each with its kind and its values; a reference is a place in that list -/
abbrev Hp := List (Nat × List Value)
abbrev Kt := Nat → FieldType × List (String × String)
def sh (n0 : Nat) : Value → Value
  | .ref k => .ref (n0 + k)
  | v => v
def gV (D : Hp) (a t i : Nat) : Option Value := (D[a]?).bind fun ob => if ob.1 = t then ob.2[i]? else none
def asI : Value → Option Int32
  | .int x => some x
  | _ => none
def asJ : Value → Option Int64
  | .long x => some x
  | _ => none
def asR : Value → Option Nat
  | .ref x => some x
  | _ => none
def gI (D : Hp) (a t i : Nat) : Option Int32 := (gV D a t i).bind asI
def gJ (D : Hp) (a t i : Nat) : Option Int64 := (gV D a t i).bind asJ
def gR (D : Hp) (a t i : Nat) : Option Nat := (gV D a t i).bind asR
def ck (D : Hp) (a t : Nat) : Option Nat := (D[a]?).bind fun ob => if ob.1 = t then some t else none
def pV (D : Hp) (a t i : Nat) (v : Value) : Option Hp := (D[a]?).bind fun ob => if ob.1 = t then (if i < ob.2.length then some (D.set a (t, ob.2.set i v)) else none) else none
def rV (D : Hp) (a t : Nat) (j : Int32) : Option Value := (D[a]?).bind fun ob => if ob.1 = t then (if j < 0 then none else ob.2[j.toNatClampNeg]?) else none
def rI (D : Hp) (a t : Nat) (j : Int32) : Option Int32 := (rV D a t j).bind asI
def rJ (D : Hp) (a t : Nat) (j : Int32) : Option Int64 := (rV D a t j).bind asJ
def wV (D : Hp) (a t : Nat) (j : Int32) (v : Value) : Option Hp := (D[a]?).bind fun ob => if ob.1 = t then (if j < 0 then none else if j.toNatClampNeg < ob.2.length then some (D.set a (t, ob.2.set j.toNatClampNeg v)) else none) else none
def lA (D : Hp) (a t : Nat) : Option Int32 := (D[a]?).bind fun ob => if ob.1 = t then some ob.2.length.toInt32 else none
def nA (D : Hp) (t : Nat) (n : Int32) (cap : Nat) (z : Value) : Option Hp := if n < 0 then none else if n.toNatClampNeg ≤ cap then some (D ++ [(t, List.replicate n.toNatClampNeg z)]) else none
def cA' (D : Hp) (a t cap : Nat) : Option Hp := (D[a]?).bind fun ob => if ob.1 = t then (if ob.2.length ≤ cap then some (D ++ [(t, ob.2)]) else none) else none
def Ob1 (K : Kt) (Z : State) (h : Heap) (n0 a t : Nat) (vs : List Value) : Prop :=
  (∀ ty, (K t).1 = .array ty → Exa Z h a ("[" ++ ty.toString) ∧ ∃ c : Cell, Arr Z h a c ty ∧ c.slots = (vs.map (sh n0)).toArray ∧ vs.length < 2 ^ 31 ∧ ∀ v ∈ vs, fits ty v = true) ∧
  (∀ C, (K t).1 = .object C → Exa Z h a C ∧ ∀ (i : Nat) (f d : String), (K t).2[i]? = some (f, d) → ∃ v : Value, vs[i]? = some v ∧ Fld Z h a C f d (sh n0 v))
def Ow (K : Kt) (Z : State) (h : Heap) (n0 : Nat) (D : Hp) : Prop := h.size = n0 + D.length ∧ ∀ (k t : Nat) (vs : List Value), D[k]? = some (t, vs) → Ob1 K Z h n0 (n0 + k) t vs
def Lay (K : Kt) (Z : State) (a0 : Array Value) : Prop := ∀ t C, (K t).1 = .object C → (∀ q ∈ (K t).2, Laid Z a0 C C q.1 q.2 ∧ ∃ ty, parseFieldDescriptor q.2 = some ty) ∧ ((K t).2.map Prod.fst).Nodup
section OwnHeap
variable {K : Kt} {Z : State} {h h' : Heap} {n0 : Nat} {D D' : Hp} {a t i : Nat} {v : Value} {j : Int32} {C f d : String} {ty : FieldType}
theorem gV_e (hg : gV D a t i = some v) : ∃ vs, D[a]? = some (t, vs) ∧ vs[i]? = some v := by
  obtain ⟨⟨t', vs⟩, h1, h2⟩ := own_bind hg
  by_cases q : t' = t
  · subst q; rw [if_pos rfl] at h2; exact ⟨vs, h1, h2⟩
  · rw [if_neg q] at h2; cases h2
theorem gI_e {x : Int32} (hg : gI D a t i = some x) : gV D a t i = some (.int x) := by
  obtain ⟨w, h1, h2⟩ := own_bind hg
  cases w <;> cases h2; exact h1
theorem gJ_e {x : Int64} (hg : gJ D a t i = some x) : gV D a t i = some (.long x) := by
  obtain ⟨w, h1, h2⟩ := own_bind hg
  cases w <;> cases h2; exact h1
theorem gR_e {x : Nat} (hg : gR D a t i = some x) : gV D a t i = some (.ref x) := by
  obtain ⟨w, h1, h2⟩ := own_bind hg
  cases w <;> cases h2; exact h1
theorem ck_e {q : Nat} (hg : ck D a t = some q) : ∃ vs, D[a]? = some (t, vs) := by
  obtain ⟨⟨t', vs⟩, h1, h2⟩ := own_bind hg
  by_cases q : t' = t
  · subst q; exact ⟨vs, h1⟩
  · rw [if_neg q] at h2; cases h2
theorem rV_e (hg : rV D a t j = some v) : ∃ vs, D[a]? = some (t, vs) ∧ ¬ j < 0 ∧ vs[j.toNatClampNeg]? = some v := by
  obtain ⟨⟨t', vs⟩, h1, h2⟩ := own_bind hg
  by_cases q : t' = t
  · subst q; rw [if_pos rfl] at h2
    by_cases r : j < 0
    · rw [if_pos r] at h2; cases h2
    · rw [if_neg r] at h2; exact ⟨vs, h1, r, h2⟩
  · rw [if_neg q] at h2; cases h2
theorem rI_e {x : Int32} (hg : rI D a t j = some x) : rV D a t j = some (.int x) := by
  obtain ⟨w, h1, h2⟩ := own_bind hg
  cases w <;> cases h2; exact h1
theorem rJ_e {x : Int64} (hg : rJ D a t j = some x) : rV D a t j = some (.long x) := by
  obtain ⟨w, h1, h2⟩ := own_bind hg
  cases w <;> cases h2; exact h1
theorem wV_e (hg : wV D a t j v = some D') : ∃ vs, D[a]? = some (t, vs) ∧ ¬ j < 0 ∧ j.toNatClampNeg < vs.length ∧ D' = D.set a (t, vs.set j.toNatClampNeg v) := by
  obtain ⟨⟨t', vs⟩, h1, h2⟩ := own_bind hg
  by_cases q : t' = t
  · subst q; rw [if_pos rfl] at h2
    by_cases r : j < 0
    · rw [if_pos r] at h2; cases h2
    · rw [if_neg r] at h2
      by_cases u : j.toNatClampNeg < vs.length
      · rw [if_pos u] at h2; cases h2; exact ⟨vs, h1, r, u, rfl⟩
      · rw [if_neg u] at h2; cases h2
  · rw [if_neg q] at h2; cases h2
theorem pV_e (hg : pV D a t i v = some D') : ∃ vs, D[a]? = some (t, vs) ∧ i < vs.length ∧ D' = D.set a (t, vs.set i v) := by
  obtain ⟨⟨t', vs⟩, h1, h2⟩ := own_bind hg
  by_cases q : t' = t
  · subst q; rw [if_pos rfl] at h2
    by_cases u : i < vs.length
    · rw [if_pos u] at h2; cases h2; exact ⟨vs, h1, u, rfl⟩
    · rw [if_neg u] at h2; cases h2
  · rw [if_neg q] at h2; cases h2
theorem cA_e {cap : Nat} (hg : cA' D a t cap = some D') : ∃ vs, D[a]? = some (t, vs) ∧ vs.length ≤ cap ∧ D' = D ++ [(t, vs)] := by
  obtain ⟨⟨t', vs⟩, h1, h2⟩ := own_bind hg
  by_cases q : t' = t
  · subst q; rw [if_pos rfl] at h2
    by_cases u : vs.length ≤ cap
    · rw [if_pos u] at h2; cases h2; exact ⟨vs, h1, u, rfl⟩
    · rw [if_neg u] at h2; cases h2
  · rw [if_neg q] at h2; cases h2
theorem lA_e {x : Int32} (hg : lA D a t = some x) : ∃ vs, D[a]? = some (t, vs) ∧ x = vs.length.toInt32 := by
  obtain ⟨⟨t', vs⟩, h1, h2⟩ := own_bind hg
  by_cases q : t' = t
  · subst q; rw [if_pos rfl] at h2; cases h2; exact ⟨vs, h1, rfl⟩
  · rw [if_neg q] at h2; cases h2
theorem Ow.fld (O : Ow K Z h n0 D) (hg : gV D a t i = some v) (hK : (K t).1 = .object C) (hf : (K t).2[i]? = some (f, d)) : Fld Z h (n0 + a) C f d (sh n0 v) := by
  obtain ⟨vs, h1, h2⟩ := gV_e hg
  obtain ⟨w, h3, h4⟩ := ((O.2 a t vs h1).2 C hK).2 i f d hf
  cases h2.symm.trans h3; exact h4
theorem Ow.fld0 (O : Ow K Z h n0 D) (hg : pV D a t i v = some D') (hK : (K t).1 = .object C) (hf : (K t).2[i]? = some (f, d)) : ∃ w, Fld Z h (n0 + a) C f d w := by
  obtain ⟨vs, h1, h2, -⟩ := pV_e hg
  obtain ⟨w, h3, h4⟩ := ((O.2 a t vs h1).2 C hK).2 i f d hf
  exact ⟨_, h4⟩
theorem Ow.exa (O : Ow K Z h n0 D) {vs : List Value} (hg : D[a]? = some (t, vs)) (hK : (K t).1 = .object C) : Exa Z h (n0 + a) C := ((O.2 a t vs hg).2 C hK).1
theorem Ow.exaC (O : Ow K Z h n0 D) {q : Nat} (hg : ck D a t = some q) (hK : (K t).1 = .object C) : Exa Z h (n0 + a) C := by
  obtain ⟨vs, h1⟩ := ck_e hg; exact O.exa h1 hK
theorem Ow.exaP (O : Ow K Z h n0 D) (hg : pV D a t i v = some D') (hK : (K t).1 = .object C) : Exa Z h (n0 + a) C := by
  obtain ⟨vs, h1, -⟩ := pV_e hg; exact O.exa h1 hK
theorem sh_len (vs : List Value) : ((vs.map (sh n0)).toArray).size = vs.length := by simp
/-- the array at a, its cell, that the place j lies in it and what it holds -/
theorem Ow.arrR (O : Ow K Z h n0 D) (hg : rV D a t j = some v) (hK : (K t).1 = .array ty) : ∃ c : Cell, Arr Z h (n0 + a) c ty ∧ ¬ (j < 0 ∨ c.slots.size ≤ j.toNatClampNeg) ∧ c.slots[j.toNatClampNeg]? = some (sh n0 v) := by
  obtain ⟨vs, h1, h2, h3⟩ := rV_e hg
  obtain ⟨-, c, A, hs, -, -⟩ := (O.2 a t vs h1).1 ty hK
  have hlt := (List.getElem?_eq_some_iff.mp h3).1
  refine ⟨c, A, ?_, ?_⟩
  · rw [hs, sh_len]; intro q; rcases q with q | q
    · exact h2 q
    · omega
  · rw [hs]; simp [h3]
theorem Ow.arrL (O : Ow K Z h n0 D) {x : Int32} (hg : lA D a t = some x) (hK : (K t).1 = .array ty) : ∃ c : Cell, Arr Z h (n0 + a) c ty ∧ c.slots.size.toInt32 = x := by
  obtain ⟨vs, h1, h2⟩ := lA_e hg
  obtain ⟨-, c, A, hs, -, -⟩ := (O.2 a t vs h1).1 ty hK
  exact ⟨c, A, by rw [hs, sh_len, h2]⟩
theorem Ow.arrW (O : Ow K Z h n0 D) (hg : wV D a t j v = some D') (hK : (K t).1 = .array ty) : ∃ c : Cell, Arr Z h (n0 + a) c ty ∧ ¬ (j < 0 ∨ c.slots.size ≤ j.toNatClampNeg) := by
  obtain ⟨vs, h1, h2, h3, -⟩ := wV_e hg
  obtain ⟨-, c, A, hs, -, -⟩ := (O.2 a t vs h1).1 ty hK
  refine ⟨c, A, ?_⟩
  rw [hs, sh_len]; intro q; rcases q with q | q
  · exact h2 q
  · omega
theorem own_get_set {k : Nat} {ob ob' : Nat × List Value} (hk : (D.set a ob)[k]? = some ob') : (k = a ∧ ob' = ob ∧ a < D.length) ∨ (k ≠ a ∧ D[k]? = some ob') := by
  by_cases q : k = a
  · subst q
    rw [List.getElem?_set] at hk
    simp only [if_true] at hk
    by_cases r : k < D.length
    · rw [if_pos r] at hk; cases hk; exact Or.inl ⟨rfl, rfl, r⟩
    · rw [if_neg r] at hk; cases hk
  · rw [List.getElem?_set_ne (Ne.symm q)] at hk; exact Or.inr ⟨q, hk⟩
theorem Ob1.other {x y k : Nat} {vs : List Value} {w : Value} {sl : Nat} (B : Ob1 K Z h n0 x k vs) (W : Wr h h' y sl w) (hne : x ≠ y) : Ob1 K Z h' n0 x k vs := by
  refine ⟨fun ty hK => ?_, fun C hK => ?_⟩
  · obtain ⟨E, c, A, r⟩ := B.1 ty hK
    exact ⟨E.wr W, c, A.other W hne, r⟩
  · obtain ⟨E, F⟩ := B.2 C hK
    refine ⟨E.wr W, fun i f d hi => ?_⟩
    obtain ⟨v, h1, h2⟩ := F i f d hi
    exact ⟨v, h1, h2.other W (Or.inl hne)⟩
theorem Ow.st (O : Ow K Z h n0 D) (hg : wV D a t j v = some D') (hK : (K t).1 = .array ty) (hfit : fits ty v = true) (W : Wr h h' (n0 + a) j.toNatClampNeg (sh n0 v)) : Ow K Z h' n0 D' := by
  obtain ⟨vs, h1, h2, h3, rfl⟩ := wV_e hg
  refine ⟨by rw [W.size, O.1, List.length_set], fun k t' vs' hk => ?_⟩
  rcases own_get_set hk with ⟨rfl, e, -⟩ | ⟨hne, hk'⟩
  · cases e
    refine ⟨fun ty' hK' => ?_, fun C hK' => ?_⟩
    · cases hK.symm.trans hK'
      obtain ⟨E, c, A, hs, hl, hf⟩ := (O.2 _ _ vs h1).1 _ hK
      refine ⟨E.wr W, _, A.same W, ?_, by rw [List.length_set]; exact hl, fun w hw => ?_⟩
      · simp only [Cell.setSlot, hs]
        rw [List.map_set]
        simp
      · rcases List.mem_or_eq_of_mem_set hw with q | q
        · exact hf w q
        · rw [q]; exact hfit
    · rw [hK] at hK'; cases hK'
  · exact (O.2 k t' vs' hk').other W (by omega)
theorem Ow.put {a0 : Array Value} (O : Ow K Z h n0 D) (hL : Lay K Z a0) (hg : pV D a t i v = some D') (hK : (K t).1 = .object C) (hf : (K t).2[i]? = some (f, d)) (W : Wr h h' (n0 + a) (Jvm.RoadKit.slotOf Z C f d) (sh n0 v)) : Ow K Z h' n0 D' := by
  obtain ⟨vs, h1, h3, rfl⟩ := pV_e hg
  refine ⟨by rw [W.size, O.1, List.length_set], fun k t' vs' hk => ?_⟩
  rcases own_get_set hk with ⟨rfl, e, -⟩ | ⟨hne, hk'⟩
  · cases e
    refine ⟨fun ty' hK' => (by rw [hK] at hK'; cases hK'), fun C' hK' => ?_⟩
    cases hK.symm.trans hK'
    obtain ⟨E, F⟩ := (O.2 _ _ vs h1).2 _ hK
    refine ⟨E.wr W, fun i' f' d' hi' => ?_⟩
    obtain ⟨w, g1, g2⟩ := F i' f' d' hi'
    by_cases q : i' = i
    · subst q
      cases hf.symm.trans hi'
      exact ⟨v, by rw [List.getElem?_set]; simp [h3], g2.same W⟩
    · refine ⟨w, by rw [List.getElem?_set_ne (Ne.symm q)]; exact g1, g2.other W (Or.inr ?_)⟩
      obtain ⟨hl, hn⟩ := hL t C hK
      obtain ⟨l1, ty1, p1⟩ := hl _ (List.mem_of_getElem? hf)
      obtain ⟨l2, ty2, p2⟩ := hl _ (List.mem_of_getElem? hi')
      refine slot_ne l2 l1 (fun e => q ?_) p2 p1
      have m1 : ((K t).2.map Prod.fst)[i]? = some f := by rw [List.getElem?_map, hf]; rfl
      have m2 : ((K t).2.map Prod.fst)[i']? = some f' := by rw [List.getElem?_map, hi']; rfl
      obtain ⟨b1, c1⟩ := List.getElem?_eq_some_iff.mp m1
      obtain ⟨b2, c2⟩ := List.getElem?_eq_some_iff.mp m2
      exact (List.getElem_inj hn).mp (by rw [c1, c2]; exact e)
  · exact (O.2 k t' vs' hk').other W (by omega)
theorem Ob1.ext {x k : Nat} {vs : List Value} (B : Ob1 K Z h n0 x k vs) (E : Ext h h') : Ob1 K Z h' n0 x k vs := by
  refine ⟨fun ty hK => ?_, fun C hK => ?_⟩
  · obtain ⟨F, c, A, r⟩ := B.1 ty hK
    exact ⟨F.ext E, c, A.ext E, r⟩
  · obtain ⟨X, F⟩ := B.2 C hK
    refine ⟨X.ext E, fun i f d hi => ?_⟩
    obtain ⟨v, h1, h2⟩ := F i f d hi
    exact ⟨v, h1, h2.ext E⟩
theorem Ow.push {vs : List Value} (O : Ow K Z h n0 D) (E : Ext h h') (hsz : h'.size = h.size + 1) (B : Ob1 K Z h' n0 (n0 + D.length) t vs) : Ow K Z h' n0 (D ++ [(t, vs)]) := by
  refine ⟨by rw [hsz, O.1, List.length_append]; rfl, fun k t' vs' hk => ?_⟩
  by_cases q : k < D.length
  · rw [List.getElem?_append_left q] at hk; exact (O.2 k t' vs' hk).ext E
  · rw [List.getElem?_append_right (Nat.le_of_not_lt q)] at hk
    have e : k - D.length = 0 := by
      have := (List.getElem?_eq_some_iff.mp hk).1
      simp only [List.length_singleton] at this; omega
    rw [e] at hk
    have hk2 : (t, vs) = (t', vs') := Option.some.inj hk
    cases hk2
    have : k = D.length := by omega
    rw [this]; exact B
theorem sh_default (ty : FieldType) : sh n0 (defaultValue ty) = defaultValue ty := by cases ty <;> rfl
theorem own_ow0 (h : Heap) : Ow K Z h h.size [] := ⟨by simp, fun k t vs hk => by simp at hk⟩
end OwnHeap
/-! 3. the laws of the library, over that list -/
section OwnLaws
variable {p : Program} {l : Launch} {e : Env} {R : Room} {s : State} {m : MethodId} {args : Array Value} {below : List Frame} {meth : Method} {c : Code} {T : State} {locs : List Loc} {cells slots : Nat} {Z : State} {a0 : Array Value} {h : Heap} {K : Kt} {n0 : Nat} {D D' : Hp} {a t : Nat}
theorem ldW (X : Stand p l e R s m args below meth c T locs cells slots) (hx : p.tables.exec = Jvm.exec) (hZ : Z.Warmed39 s.vm) (eT : T.heap = h) (O : Ow K Z h n0 D) {j : Int32} {x : Int32} (hg : rI D a t j = some x) (hK : (K t).1 = .array .int)
    {g : JFrame} (hgm : g.method = m) {rest : List Value} (hs : g.stack = .int j :: .ref (n0 + a) :: rest) (hd : decode c.code g.pc = .ok (.iaload, 1)) (target : State)
    (hr : Steps p.tables e below (T.setTop { g with pc := g.pc + 1, stack := .int x :: rest }) target) : Steps p.tables e below (T.setTop g) target := by
  obtain ⟨cl, A, hin, hat⟩ := O.arrR (rI_e hg) hK
  exact X.iaload hx (v := .int x) (by rw [eT]; exact A.1) (State.isArrayOf_alike hZ.alike A.2.1) A.2.2 hin hat hgm hs hd target hr
theorem ldB (X : Stand p l e R s m args below meth c T locs cells slots) (hx : p.tables.exec = Jvm.exec) (hZ : Z.Warmed39 s.vm) (eT : T.heap = h) (O : Ow K Z h n0 D) {j : Int32} {x : Int32} (hg : rI D a t j = some x) (hK : (K t).1 = .array .byte)
    {g : JFrame} (hgm : g.method = m) {rest : List Value} (hs : g.stack = .int j :: .ref (n0 + a) :: rest) (hd : decode c.code g.pc = .ok (.baload, 1)) (target : State)
    (hr : Steps p.tables e below (T.setTop { g with pc := g.pc + 1, stack := .int x :: rest }) target) : Steps p.tables e below (T.setTop g) target := by
  obtain ⟨cl, A, hin, hat⟩ := O.arrR (rI_e hg) hK
  exact X.baloadBytes hx (v := .int x) (by rw [eT]; exact A.1) (State.isArrayOf_alike hZ.alike A.2.1) A.2.2 hin hat hgm hs hd target hr
theorem ldJ (X : Stand p l e R s m args below meth c T locs cells slots) (hx : p.tables.exec = Jvm.exec) (hZ : Z.Warmed39 s.vm) (eT : T.heap = h) (O : Ow K Z h n0 D) {j : Int32} {x : Int64} (hg : rJ D a t j = some x) (hK : (K t).1 = .array .long)
    {g : JFrame} (hgm : g.method = m) {rest : List Value} (hs : g.stack = .int j :: .ref (n0 + a) :: rest) (hd : decode c.code g.pc = .ok (.laload, 1)) (target : State)
    (hr : Steps p.tables e below (T.setTop { g with pc := g.pc + 1, stack := .long x :: rest }) target) : Steps p.tables e below (T.setTop g) target := by
  obtain ⟨cl, A, hin, hat⟩ := O.arrR (rJ_e hg) hK
  exact X.laload hx (v := .long x) (by rw [eT]; exact A.1) (State.isArrayOf_alike hZ.alike A.2.1) A.2.2 hin hat hgm hs hd target hr
theorem lenW' (X : Stand p l e R s m args below meth c T locs cells slots) (hx : p.tables.exec = Jvm.exec) (hZ : Z.Warmed39 s.vm) (eT : T.heap = h) (O : Ow K Z h n0 D) {x : Int32} (hg : lA D a t = some x) {ty : FieldType} (hK : (K t).1 = .array ty)
    {g : JFrame} (hgm : g.method = m) {rest : List Value} (hs : g.stack = .ref (n0 + a) :: rest) (hd : decode c.code g.pc = .ok (.arraylength, 1)) (target : State)
    (hr : Steps p.tables e below (T.setTop { g with pc := g.pc + 1, stack := .int x :: rest }) target) : Steps p.tables e below (T.setTop g) target := by
  obtain ⟨cl, A, hl⟩ := O.arrL hg hK
  subst hl
  exact X.arraylength hx (by rw [eT]; exact A.1) (State.isArrayOf_alike hZ.alike A.2.1) hgm hs hd target hr
theorem stIW (X : Stand p l e R s m args below meth c T locs cells slots) (hx : p.tables.exec = Jvm.exec) (hZ : Z.Warmed39 s.vm) (eT : T.heap = h) (O : Ow K Z h n0 D) (N : Fr n0 locs) {j x : Int32} (hg : wV D a t j (.int x) = some D') (hK : (K t).1 = .array .int)
    {g : JFrame} (hgm : g.method = m) {rest : List Value} (hs : g.stack = .int x :: .int j :: .ref (n0 + a) :: rest) (hd : decode c.code g.pc = .ok (.iastore, 1)) :
    ∃ T' h' L, Stand p l e R s m args below meth c T' L cells slots ∧ T'.heap = h' ∧ Ow K Z h' n0 D' ∧ Fr n0 L ∧ ∀ target, Steps p.tables e below (T'.setTop { g with pc := g.pc + 1, stack := rest }) target → Steps p.tables e below (T.setTop g) target := by
  obtain ⟨cl, A, hin⟩ := O.arrW hg hK
  obtain ⟨T', h', X', e', W, st⟩ := stI X hx hZ eT A hin hgm hs hd
  exact ⟨T', h', _, X', e', O.st hg hK rfl W, Fr.snoc X' N (Nat.le_add_right _ _), st⟩
theorem stBW (X : Stand p l e R s m args below meth c T locs cells slots) (hx : p.tables.exec = Jvm.exec) (hZ : Z.Warmed39 s.vm) (eT : T.heap = h) (O : Ow K Z h n0 D) (N : Fr n0 locs) {j x : Int32} (hg : wV D a t j (.int x.toInt8.toInt32) = some D') (hK : (K t).1 = .array .byte)
    {g : JFrame} (hgm : g.method = m) {rest : List Value} (hs : g.stack = .int x :: .int j :: .ref (n0 + a) :: rest) (hd : decode c.code g.pc = .ok (.bastore, 1)) :
    ∃ T' h' L, Stand p l e R s m args below meth c T' L cells slots ∧ T'.heap = h' ∧ Ow K Z h' n0 D' ∧ Fr n0 L ∧ ∀ target, Steps p.tables e below (T'.setTop { g with pc := g.pc + 1, stack := rest }) target → Steps p.tables e below (T.setTop g) target := by
  obtain ⟨cl, A, hin⟩ := O.arrW hg hK
  obtain ⟨T', h', X', e', W, st⟩ := stB X hx hZ eT A hin hgm hs hd
  exact ⟨T', h', _, X', e', O.st hg hK (fits_nar_byte _) W, Fr.snoc X' N (Nat.le_add_right _ _), st⟩
theorem stJW (X : Stand p l e R s m args below meth c T locs cells slots) (hx : p.tables.exec = Jvm.exec) (hZ : Z.Warmed39 s.vm) (eT : T.heap = h) (O : Ow K Z h n0 D) (N : Fr n0 locs) {j : Int32} {x : Int64} (hg : wV D a t j (.long x) = some D') (hK : (K t).1 = .array .long)
    {g : JFrame} (hgm : g.method = m) {rest : List Value} (hs : g.stack = .long x :: .int j :: .ref (n0 + a) :: rest) (hd : decode c.code g.pc = .ok (.lastore, 1)) :
    ∃ T' h' L, Stand p l e R s m args below meth c T' L cells slots ∧ T'.heap = h' ∧ Ow K Z h' n0 D' ∧ Fr n0 L ∧ ∀ target, Steps p.tables e below (T'.setTop { g with pc := g.pc + 1, stack := rest }) target → Steps p.tables e below (T.setTop g) target := by
  obtain ⟨cl, A, hin⟩ := O.arrW hg hK
  obtain ⟨T', h', X', e', W, st⟩ := stJ X hx hZ eT A hin hgm hs hd
  exact ⟨T', h', _, X', e', O.st hg hK rfl W, Fr.snoc X' N (Nat.le_add_right _ _), st⟩
theorem putW (X : Stand p l e R s m args below meth c T locs cells slots) (hx : p.tables.exec = Jvm.exec) (hZ : Z.Warmed39 s.vm) {own C f d : String} {index kk i : Nat} {ty : FieldType} (hown : s.vm.findClass own = some m.cls) (w : (Cond.fieldLink own index C f d).before a0 Z = true) (hL : Lay K Z a0)
    (eT : T.heap = h) (O : Ow K Z h n0 D) (N : Fr n0 locs) {v : Value} (hg : pV D a t i v = some D') (hK : (K t).1 = .object C) (hf : (K t).2[i]? = some (f, d)) (L : (Cond.lays C C f d).before a0 Z = true ∨ ((Cond.laysFinal C C f d).before a0 Z = true ∧ own = C ∧ meth.name = "<init>")) (wi : (Cond.instantiable C kk).before a0 Z = true)
    (hty : parseFieldDescriptor d = some ty) (hn : narrow ty (sh n0 v) = sh n0 v) (hfit : fits ty (sh n0 v) = true) {g : JFrame} (hgm : g.method = m) {rest : List Value} (hs : g.stack = sh n0 v :: .ref (n0 + a) :: rest) (hd : decode c.code g.pc = .ok (.putfield index, 3)) :
    ∃ T' h' L, Stand p l e R s m args below meth c T' L cells slots ∧ T'.heap = h' ∧ Ow K Z h' n0 D' ∧ Fr n0 L ∧ ∀ target, Steps p.tables e below (T'.setTop { g with pc := g.pc + 3, stack := rest }) target → Steps p.tables e below (T.setTop g) target := by
  obtain ⟨old, F⟩ := O.fld0 hg hK hf
  obtain ⟨T', h', X', e', W, st⟩ := putF X hx hZ hown (host := "") (Or.inl w) Via.refl eT F (O.exaP hg hK) L wi hty hn hfit hgm hs hd
  exact ⟨T', h', _, X', e', O.put hL hg hK hf W, Fr.snoc X' N (Nat.le_add_right _ _), st⟩
theorem newW (X : Stand p l e R s m args below meth c T locs cells slots) (hx : p.tables.exec = Jvm.exec) (hZ : Z.Warmed39 s.vm) {own C : String} {index n : Nat} (hown : s.vm.findClass own = some m.cls) (w : (Cond.classLink own index C).before a0 Z = true) (wi : (Cond.instantiable C n).before a0 Z = true) (wz : (Cond.initialized C).before a0 Z = true) (hL : Lay K Z a0) (eT : T.heap = h) (O : Ow K Z h n0 D)
    (hK : (K t).1 = .object C) {ds : List Value} (hds : ∀ q ∈ (K t).2.zipIdx, ∃ ty, parseFieldDescriptor q.1.2 = some ty ∧ ds[q.2]? = some (defaultValue ty)) {g : JFrame} (hg : g.method = m) (hd : decode c.code g.pc = .ok (.new index, 3)) (hc : cells + 1 ≤ R.cells) (hl : slots + n ≤ R.slots) :
    ∃ T' h', Stand p l e R s m args below meth c T' locs (cells + 1) (slots + n) ∧ T'.heap = h' ∧ Ow K Z h' n0 (D ++ [(t, ds)]) ∧ ∀ target, Steps p.tables e below (T'.setTop { g with pc := g.pc + 3, stack := .ref (n0 + D.length) :: g.stack }) target → Steps p.tables e below (T.setTop g) target := by
  obtain ⟨vm', cC, kC, h1, h2, h3, h4, X', st⟩ := X.newCold hx hown (mv hZ w) (mv hZ wi) (mv hZ wz) hg hd hc hl
  subst eT
  rw [hZ.alike.findClass] at h1
  obtain ⟨kZ, z1, -⟩ := Vm.findClass_spec h1
  obtain ⟨k', z2, z3⟩ := hZ.alike.2.2 _ _ z1
  cases h2.symm.trans z2
  have ei : kC.instanceTypes = kZ.instanceTypes := by rw [z3]
  have hN : (T.heap.push { cls := cC, slots := kC.instanceTypes.map defaultValue, vm := .none })[T.heap.size]? = some { cls := cC, slots := kC.instanceTypes.map defaultValue, vm := .none } := by simp
  have E : Ext T.heap (T.heap.push { cls := cC, slots := kC.instanceTypes.map defaultValue, vm := .none }) := ⟨by simp, fun a c h => by
    rw [Array.getElem?_push_lt (Array.getElem?_eq_some_iff.mp h).1]; exact (Array.getElem?_eq_getElem _).symm.trans h⟩
  have hsz := O.1
  refine ⟨_, _, X', rfl, O.push E (by simp) ⟨fun ty hK' => (by rw [hK] at hK'; cases hK'), fun C' hK' => ?_⟩, by rw [← hsz]; exact st⟩
  cases hK.symm.trans hK'
  rw [← hsz]
  refine ⟨⟨_, kZ, hN, h1, z1, rfl, fun _ => by simp [ei]⟩, fun i f d hi => ?_⟩
  obtain ⟨ty, t1, t2⟩ := hds ((f, d), i) (List.mem_zipIdx_iff_getElem?.mpr hi)
  refine ⟨_, t2, ?_⟩
  rw [sh_default]
  obtain ⟨c1, k1, cf, kf, i', f', a1, a2, a3, a4, a5, a6, -⟩ := ((hL t C hK).1 _ (List.mem_of_getElem? hi)).1.spec
  cases h1.symm.trans a1
  cases z1.symm.trans a2
  exact ⟨_, cf, kf, i', f', hN, a3, a4, by simp, rfl, a5, by simp [ei, a6, (State.fieldFound?_type a3 t1).2]⟩
theorem newAW (X : Stand p l e R s m args below meth c T locs cells slots) (hx : p.tables.exec = Jvm.exec) (hZ : Z.Warmed39 s.vm) {aty : ArrayType} (w : (Cond.arrayClass (newarray.typeOf aty)).before a0 Z = true) (eT : T.heap = h) (O : Ow K Z h n0 D) (hK : (K t).1 = .array (newarray.typeOf aty))
    {n : Int32} {cap : Nat} {z : Value} (hz : z = defaultValue (newarray.typeOf aty)) (hn : nA D t n cap z = some D') {g : JFrame} (hg : g.method = m) (hd : decode c.code g.pc = .ok (.newarray aty, 2)) {rest : List Value} (hs : g.stack = .int n :: rest)
    (hb : cap * 8 ≤ 536870912) (hc : cells + 1 ≤ R.cells) (hl : slots + cap ≤ R.slots) :
    ∃ T' h', Stand p l e R s m args below meth c T' locs (cells + 1) (slots + cap) ∧ T'.heap = h' ∧ Ow K Z h' n0 D' ∧ ∀ target, Steps p.tables e below (T'.setTop { g with pc := g.pc + 2, stack := .ref (n0 + D.length) :: rest }) target → Steps p.tables e below (T.setTop g) target := by
  have hcb : componentBytes (newarray.typeOf aty) ≤ 8 := by cases aty <;> decide
  by_cases q : n < 0
  · simp only [nA, if_pos q] at hn; cases hn
  simp only [nA, if_neg q] at hn
  by_cases hcap : n.toNatClampNeg ≤ cap
  · rw [if_pos hcap] at hn
    cases hn
    obtain ⟨cA, kA, comp, h1, h2, h3, X', st⟩ := X.newarrayPrim hx (mvA hZ w) hg hd hs q (Nat.le_trans (Nat.mul_le_mul hcap hcb) hb) hc (by omega)
    subst eT
    rw [hZ.alike.findClass] at h1
    obtain ⟨kZ, z1, -⟩ := Vm.findClass_spec h1
    obtain ⟨k', z2, z3⟩ := hZ.alike.2.2 _ _ z1
    cases h2.symm.trans z2
    have hsz := O.1
    refine ⟨_, _, X'.more (Nat.le_refl _) (by omega), rfl, O.push (h' := T.heap.push _) ⟨by simp, fun a c h => ?_⟩ (by simp) ⟨fun ty hK' => ?_, fun C hK' => by rw [hK] at hK'; cases hK'⟩, by rw [← hsz]; exact st⟩
    · rw [Array.getElem?_push_lt (Array.getElem?_eq_some_iff.mp h).1]; exact (Array.getElem?_eq_getElem _).symm.trans h
    · cases hK.symm.trans hK'
      rw [← hsz]
      have ek : kZ.kind = .array comp (newarray.typeOf aty) := by rw [← h3, z3]
      refine ⟨⟨_, kZ, Array.getElem?_push_size, h1, z1, rfl, fun q => by rw [ek] at q; cases q⟩, _, ⟨Array.getElem?_push_size, ⟨by simp, kZ, z1, comp, ek⟩, by simp⟩, ?_, ?_, fun v hv => ?_⟩
      · rw [hz, List.map_replicate, sh_default]; simp
      · rw [List.length_replicate]; exact (back32 q).2
      · rw [(List.mem_replicate.mp hv).2, hz]; cases aty <;> rfl
  · rw [if_neg hcap] at hn; cases hn
/-! 4. contracts and calls -/
def Qw (K : Kt) (Z : State) (n0 : Nat) (r : Option Value) (D' : Hp) : Option Value → Heap → List Loc → Prop := fun v h L => v = r ∧ Fr n0 L ∧ Ow K Z h n0 D'
def Ct (K : Kt) (l : Launch) (Z : State) (y : MethodName) (cw : Jvm.Cond) (rm : Room) (n0 : Nat) (D : Hp) (as' : Array Value) (r : Option Value) (D' : Hp) : Prop :=
  ∀ (h0 : Heap) (ws : List Jvm.Cond), Ow K Z h0 n0 D → MetFree l y (head1 (cw :: ws) rm) (fun a U => a = as' ∧ Z.Warmed39 U.vm ∧ U.heap = h0) (fun _ _ _ _ _ => True) (fun _ U o U' => ∃ v L, o = .returned v ∧ Qw K Z n0 r D' v U'.heap L ∧ FrameEnd U o U' L rm.cells rm.slots)
/-- what stands still through a body -/
def Cx (p : Program) (s : State) (m : MethodId) (meth : Method) (c : Code) (Z : State) (bytes : ByteArray) (maxL : Nat) (ret : Option FieldType) (own nm : String) : Prop :=
  p.tables.exec = Jvm.exec ∧ Z.Warmed39 s.vm ∧ c.code = bytes ∧ c.maxLocals = maxL ∧ s.vm.findClass own = some m.cls ∧ meth.name = nm ∧ meth.sig.returnType = ret ∧ meth.locks = false
variable {y : MethodName} {bytes : ByteArray} {maxL : Nat} {ret : Option FieldType} {rm : Room} {r : Option Value}
theorem Ct.of {as' : Array Value} (hpl : plainFor y = true) (body : ∀ (p : Program) (e : Env) (s : State) (m : MethodId) (below : List Frame) (meth : Method) (c : Code) (s₁ : State) (h0 : Heap), Cx p s m meth c Z bytes maxL ret y.cls y.name → Stand p l e rm s m as' below meth c s₁ [] 0 0 → s₁.heap = h0 → Ow K Z h0 n0 D →
      Gl p e below s rm.cells rm.slots (Qw K Z n0 r D') (s₁.setTop (entryFrame m as' maxL))) : Ct K l Z y (.code y bytes maxL ret) rm n0 D as' r D' := by
  intro h0 ws O
  refine MetFree.of_bodySF hpl hisR ?_
  intro p e s m args below meth c s₁ Bd hml0 hP hK
  obtain ⟨rfl, hZ, hh⟩ := hP
  exact body p e s m below meth c s₁ h0 ⟨Bd.exec, hZ, Bd.bytes, hml0, findClass_of_methodNamed Bd.named, (name_of_methodNamed Bd.named Bd.method).1, Bd.returns, BodyLoose.notSynchronized Bd⟩ (Stand.of_body Bd) (by rw [← hh, Bd.state]; rfl) O
theorem Ct.ofH {as' : Array Value} {hs : List (Nat × Nat × Nat × Nat)} (hpl : plainFor y = true) (body : ∀ (p : Program) (e : Env) (s : State) (m : MethodId) (below : List Frame) (meth : Method) (c : Code) (s₁ : State) (h0 : Heap), Cx p s m meth c Z bytes maxL ret y.cls y.name → Stand p l e rm s m as' below meth c s₁ [] 0 0 → s₁.heap = h0 → Ow K Z h0 n0 D →
      Gl p e below s rm.cells rm.slots (Qw K Z n0 r D') (s₁.setTop (entryFrame m as' maxL))) : Ct K l Z y (.codeWith y bytes maxL ret hs) rm n0 D as' r D' := by
  intro h0 ws O
  refine MetFree.of_bodySF hpl hisWith ?_
  intro p e s m args below meth c s₁ Bd hml0 hP hK
  obtain ⟨rfl, hZ, hh⟩ := hP
  exact body p e s m below meth c s₁ h0 ⟨Bd.exec, hZ, Bd.bytes, hml0, findClass_of_methodNamed Bd.named, (name_of_methodNamed Bd.named Bd.method).1, Bd.returns, BodyLoose.notSynchronized Bd⟩ (Stand.of_body Bd) (by rw [← hh, Bd.state]; rfl) O
theorem callSW (X : Stand p l e R s m args below meth c T locs cells slots) (hx : p.tables.exec = Jvm.exec) (hZ : Z.Warmed39 s.vm) {own : String} {index : Nat} (hown : s.vm.findClass own = some m.cls) (w1 : (Cond.methodLink own index y).before a0 Z = true) (w2 : (Cond.static y).before a0 Z = true) (w3 : (Cond.initialized y.cls).before a0 Z = true) (w4 : (Cond.code y bytes maxL ret).before a0 Z = true)
    (hy : y.cls ≠ "java/lang/invoke/MethodHandle" ∧ y.cls ≠ "java/lang/invoke/VarHandle") (eT : T.heap = h) (O : Ow K Z h n0 D) (N : Fr n0 locs) {as' : List Value} (hM : Ct K l Z y (.code y bytes maxL ret) rm n0 D as'.toArray r D') {W kc ks : Nat} (hkc : rm.cells = kc) (hks : rm.slots = ks) (hf : rm.frames + 1 ≤ R.frames) (hl : W + (maxL + 11) + rm.locals ≤ R.locals)
    {g : JFrame} (hg : g.method = m) (hsize : g.locals.size = c.maxLocals) {rest : List Value} (hlen : ∀ sig, parseMethodDescriptor y.desc = some sig → as'.length = sig.parameters.length) (hs : g.stack = as'.reverse ++ rest) (hW : 2 * g.monitorRoom + (rest.map fun v => v.category).sum ≤ W) (hd : decode c.code g.pc = .ok (.invokestatic index, 3)) (hc : cells + kc ≤ R.cells) (hsl : slots + ks ≤ R.slots) :
    ∃ T' h' L, Stand p l e R s m args below meth c T' L (cells + kc) (slots + ks) ∧ T'.heap = h' ∧ Ow K Z h' n0 D' ∧ Fr n0 L ∧ ∀ target, Steps p.tables e below (T'.setTop { g with pc := g.pc + 3, stack := r.toList ++ rest }) target → Steps p.tables e below (T.setTop g) target := by
  subst hkc hks
  obtain ⟨_, _, ⟨T', L', k', n'⟩, -, X', ⟨Lc, hQ, hL, hk, hn⟩, st⟩ := Jvm.LawKit.callS X hx hown (mvT hZ w1) (mvT hZ w2) (mvT hZ w3) (mvT hZ w4) hy (backOf (W := W) (hM h [] O) hZ w4 w3 hf hl) hg hsize (argsL := as') hlen hs hW hd (fun _ _ => ⟨rfl, eT, hc, hsl⟩)
  dsimp only [Pt.U, Pt.locs, Pt.cells, Pt.slots] at X' hL hk hn st hQ
  subst hL hk hn
  obtain ⟨rfl, N', O'⟩ := hQ
  exact ⟨T', _, _, X', rfl, O', N.app N', st⟩
theorem callSHW (X : Stand p l e R s m args below meth c T locs cells slots) (hx : p.tables.exec = Jvm.exec) (hZ : Z.Warmed39 s.vm) {own : String} {index : Nat} {hs' : List (Nat × Nat × Nat × Nat)} (hown : s.vm.findClass own = some m.cls) (w1 : (Cond.methodLink own index y).before a0 Z = true) (w2 : (Cond.static y).before a0 Z = true) (w3 : (Cond.initialized y.cls).before a0 Z = true) (w4 : (Cond.codeWith y bytes maxL ret hs').before a0 Z = true)
    (hy : y.cls ≠ "java/lang/invoke/MethodHandle" ∧ y.cls ≠ "java/lang/invoke/VarHandle") (eT : T.heap = h) (O : Ow K Z h n0 D) (N : Fr n0 locs) {as' : List Value} (hM : Ct K l Z y (.codeWith y bytes maxL ret hs') rm n0 D as'.toArray r D') {W kc ks : Nat} (hkc : rm.cells = kc) (hks : rm.slots = ks) (hf : rm.frames + 1 ≤ R.frames) (hl : W + (maxL + 11) + rm.locals ≤ R.locals)
    {g : JFrame} (hg : g.method = m) (hsize : g.locals.size = c.maxLocals) {rest : List Value} (hlen : ∀ sig, parseMethodDescriptor y.desc = some sig → as'.length = sig.parameters.length) (hs : g.stack = as'.reverse ++ rest) (hW : 2 * g.monitorRoom + (rest.map fun v => v.category).sum ≤ W) (hd : decode c.code g.pc = .ok (.invokestatic index, 3)) (hc : cells + kc ≤ R.cells) (hsl : slots + ks ≤ R.slots) :
    ∃ T' h' L, Stand p l e R s m args below meth c T' L (cells + kc) (slots + ks) ∧ T'.heap = h' ∧ Ow K Z h' n0 D' ∧ Fr n0 L ∧ ∀ target, Steps p.tables e below (T'.setTop { g with pc := g.pc + 3, stack := r.toList ++ rest }) target → Steps p.tables e below (T.setTop g) target := by
  subst hkc hks
  obtain ⟨_, _, ⟨T', L', k', n'⟩, -, X', ⟨Lc, hQ, hL, hk, hn⟩, st⟩ := callSH X hx hown (mvT hZ w1) (mvT hZ w2) (mvT hZ w3) (mvT hZ w4) hy (backOfWith (W := W) (hM h [] O) hZ w4 w3 hf hl) hg hsize (argsL := as') hlen hs hW hd (fun _ _ => ⟨rfl, eT, hc, hsl⟩)
  dsimp only [Pt.U, Pt.locs, Pt.cells, Pt.slots] at X' hL hk hn st hQ
  subst hL hk hn
  obtain ⟨rfl, N', O'⟩ := hQ
  exact ⟨T', _, _, X', rfl, O', N.app N', st⟩
theorem callIW (X : Stand p l e R s m args below meth c T locs cells slots) (hx : p.tables.exec = Jvm.exec) (hZ : Z.Warmed39 s.vm) {own : String} {index : Nat} (hy1 : y.name = "<init>") (hown : s.vm.findClass own = some m.cls) (w1 : (Cond.methodLink own index y).before a0 Z = true) (w2 : (Cond.instanceMethod y).before a0 Z = true) (w3 : (Cond.initialized y.cls).before a0 Z = true) (w4 : (Cond.code y bytes maxL none).before a0 Z = true)
    (hy : y.cls ≠ "java/lang/invoke/MethodHandle" ∧ y.cls ≠ "java/lang/invoke/VarHandle") (eT : T.heap = h) (O : Ow K Z h n0 D) (N : Fr n0 locs) {as' : List Value} (hM : Ct K l Z y (.code y bytes maxL none) rm n0 D (.ref (n0 + a) :: as').toArray r D') {W kc ks : Nat} (hkc : rm.cells = kc) (hks : rm.slots = ks) (hf : rm.frames + 1 ≤ R.frames) (hl : W + (maxL + 11) + rm.locals ≤ R.locals)
    {g : JFrame} (hg : g.method = m) (hsize : g.locals.size = c.maxLocals) {rest : List Value} (hlen : ∀ sig, parseMethodDescriptor y.desc = some sig → as'.length = sig.parameters.length) (hs : g.stack = as'.reverse ++ .ref (n0 + a) :: rest) (hW : 2 * g.monitorRoom + (rest.map fun v => v.category).sum ≤ W) (hd : decode c.code g.pc = .ok (.invokespecial index, 3)) (hc : cells + kc ≤ R.cells) (hsl : slots + ks ≤ R.slots) :
    ∃ T' h' L, Stand p l e R s m args below meth c T' L (cells + kc) (slots + ks) ∧ T'.heap = h' ∧ Ow K Z h' n0 D' ∧ Fr n0 L ∧ ∀ target, Steps p.tables e below (T'.setTop { g with pc := g.pc + 3, stack := r.toList ++ rest }) target → Steps p.tables e below (T.setTop g) target := by
  subst hkc hks
  obtain ⟨_, _, ⟨T', L', k', n'⟩, -, X', ⟨Lc, hQ, hL, hk, hn⟩, st⟩ := Jvm.LawKit.callI X hx hown hy1 (mvT hZ w1) (mvT hZ w2) (mvT hZ w4) hy (backOf (W := W) (hM h [] O) hZ w4 w3 hf hl) hg hsize (argsL := as') hlen hs hW hd (fun _ _ => ⟨rfl, eT, hc, hsl⟩)
  dsimp only [Pt.U, Pt.locs, Pt.cells, Pt.slots] at X' hL hk hn st hQ
  subst hL hk hn
  obtain ⟨rfl, N', O'⟩ := hQ
  exact ⟨T', _, _, X', rfl, O', N.app N', st⟩
theorem callVW (X : Stand p l e R s m args below meth c T locs cells slots) (hx : p.tables.exec = Jvm.exec) (hZ : Z.Warmed39 s.vm) {own C : String} {index : Nat} (hown : s.vm.findClass own = some m.cls) (w1 : (Cond.methodLink own index y).before a0 Z = true) (w2 : (Cond.declares y).before a0 Z = true) (w5 : (Cond.selects C y y).before a0 Z = true) (w6 : (Cond.instanceMethod y).before a0 Z = true) (w3 : (Cond.initialized y.cls).before a0 Z = true) (w4 : (Cond.code y bytes maxL ret).before a0 Z = true)
    (hy : y.cls ≠ "java/lang/invoke/MethodHandle" ∧ y.cls ≠ "java/lang/invoke/VarHandle") (eT : T.heap = h) (O : Ow K Z h n0 D) (N : Fr n0 locs) {q : Nat} (hck : ck D a t = some q) (hK : (K t).1 = .object C) {as' : List Value} (hM : Ct K l Z y (.code y bytes maxL ret) rm n0 D (.ref (n0 + a) :: as').toArray r D') {W kc ks : Nat} (hkc : rm.cells = kc) (hks : rm.slots = ks) (hf : rm.frames + 1 ≤ R.frames) (hl : W + (maxL + 11) + rm.locals ≤ R.locals)
    {g : JFrame} (hg : g.method = m) (hsize : g.locals.size = c.maxLocals) {rest : List Value} (hlen : ∀ sig, parseMethodDescriptor y.desc = some sig → as'.length = sig.parameters.length) (hs : g.stack = as'.reverse ++ .ref (n0 + a) :: rest) (hW : 2 * g.monitorRoom + (rest.map fun v => v.category).sum ≤ W) (hd : decode c.code g.pc = .ok (.invokevirtual index, 3)) (hc : cells + kc ≤ R.cells) (hsl : slots + ks ≤ R.slots) :
    ∃ T' h' L, Stand p l e R s m args below meth c T' L (cells + kc) (slots + ks) ∧ T'.heap = h' ∧ Ow K Z h' n0 D' ∧ Fr n0 L ∧ ∀ target, Steps p.tables e below (T'.setTop { g with pc := g.pc + 3, stack := r.toList ++ rest }) target → Steps p.tables e below (T.setTop g) target := by
  subst hkc hks
  obtain ⟨cq, kq, qa, qb, qc⟩ := isOf hZ eT (O.exaC hck hK)
  obtain ⟨_, _, ⟨T', L', k', n'⟩, -, X', ⟨Lc, hQ, hL, hk, hn⟩, st⟩ := X.virtualBack hx (y := y) (z := y) hown (mvT hZ w1) (mvT hZ w2) (notFace_of_selects (args := #[]) (mvT hZ w5)) (mvT hZ w5) (mvT hZ w6) hy (backOf (W := W) (hM h [] O) hZ w4 w3 hf hl) qa qc hg hsize (Steps.refl _) (argsL := as') hlen hs hW hd (fun _ _ => ⟨rfl, eT, hc, hsl⟩)
  dsimp only [Pt.U, Pt.locs, Pt.cells, Pt.slots] at X' hL hk hn st hQ
  subst hL hk hn
  obtain ⟨rfl, N', O'⟩ := hQ
  exact ⟨T', _, _, X', rfl, O', N.app N', fun target k => st.trans k⟩
theorem callPW (X : Stand p l e R s m args below meth c T locs cells slots) (hx : p.tables.exec = Jvm.exec) (hZ : Z.Warmed39 s.vm) {own C : String} {index nk : Nat} (hown : s.vm.findClass own = some m.cls) (w1 : (Cond.methodLink own index y).before a0 Z = true) (w2 : (Cond.privateMethod y).before a0 Z = true) (w5 : (Cond.instantiable y.cls nk).before a0 Z = true) (w6 : (Cond.instanceMethod y).before a0 Z = true) (w3 : (Cond.initialized y.cls).before a0 Z = true) (w4 : (Cond.code y bytes maxL ret).before a0 Z = true)
    (hy : y.cls ≠ "java/lang/invoke/MethodHandle" ∧ y.cls ≠ "java/lang/invoke/VarHandle") (eT : T.heap = h) (O : Ow K Z h n0 D) (N : Fr n0 locs) {q : Nat} (hck : ck D a t = some q) (hK : (K t).1 = .object C) {as' : List Value} (hM : Ct K l Z y (.code y bytes maxL ret) rm n0 D (.ref (n0 + a) :: as').toArray r D') {W kc ks : Nat} (hkc : rm.cells = kc) (hks : rm.slots = ks) (hf : rm.frames + 1 ≤ R.frames) (hl : W + (maxL + 11) + rm.locals ≤ R.locals)
    {g : JFrame} (hg : g.method = m) (hsize : g.locals.size = c.maxLocals) {rest : List Value} (hlen : ∀ sig, parseMethodDescriptor y.desc = some sig → as'.length = sig.parameters.length) (hs : g.stack = as'.reverse ++ .ref (n0 + a) :: rest) (hW : 2 * g.monitorRoom + (rest.map fun v => v.category).sum ≤ W) (hd : decode c.code g.pc = .ok (.invokevirtual index, 3)) (hc : cells + kc ≤ R.cells) (hsl : slots + ks ≤ R.slots) :
    ∃ T' h' L, Stand p l e R s m args below meth c T' L (cells + kc) (slots + ks) ∧ T'.heap = h' ∧ Ow K Z h' n0 D' ∧ Fr n0 L ∧ ∀ target, Steps p.tables e below (T'.setTop { g with pc := g.pc + 3, stack := r.toList ++ rest }) target → Steps p.tables e below (T.setTop g) target := by
  subst hkc hks
  obtain ⟨cC, kC, i1, i2, -, i4, -, -⟩ := Cond.instantiable_spec (mvT (args := args) hZ w5)
  have hpr := Cond.privateMethod_at (mvP (args := args) hZ w2)
  have hsel := selects_self_of_private i1 i2 (Bool.or_eq_false_iff.mp i4).1 hpr (mvT (args := args) hZ w6) hy
  obtain ⟨cq, qa, qb⟩ := (O.exaC hck hK).cell
  obtain ⟨_, _, ⟨T', L', k', n'⟩, -, X', ⟨Lc, hQ, hL, hk, hn⟩, st⟩ := X.privateBack hx (y := y) hown (mvT hZ w1) (mvT hZ w6) hsel hpr (mvT hZ w4) hy (backOf (W := W) (hM h [] O) hZ w4 w3 hf hl) hg hsize (Steps.refl _) (by rw [eT]; exact qa) qb (argsL := as') hlen hs hW hd (fun _ _ => ⟨rfl, eT, hc, hsl⟩)
  dsimp only [Pt.U, Pt.locs, Pt.cells, Pt.slots] at X' hL hk hn st hQ
  subst hL hk hn
  obtain ⟨rfl, N', O'⟩ := hQ
  exact ⟨T', _, _, X', rfl, O', N.app N', fun target k => st.trans k⟩
theorem cloneW (X : Stand p l e R s m args below meth c T locs cells slots) (hx : p.tables.exec = Jvm.exec) (hZ : Z.Warmed39 s.vm) {own ad : String} {index : Nat} {ty : FieldType} (hown : s.vm.findClass own = some m.cls) (had : ad = "[" ++ ty.toString)
    (w1 : (Cond.methodLink own index ⟨ad, "clone", "()Ljava/lang/Object;"⟩).before a0 Z = true) (w2 : (Cond.sameMethod ad "java/lang/Object" "clone" "()Ljava/lang/Object;").before a0 Z = true) (w3 : (Cond.native ⟨"java/lang/Object", "clone", "()Ljava/lang/Object;"⟩).before a0 Z = true)
    (w4 : (Cond.instanceMethod ⟨"java/lang/Object", "clone", "()Ljava/lang/Object;"⟩).before a0 Z = true) (w5 : (Cond.selects ad ⟨ad, "clone", "()Ljava/lang/Object;"⟩ ⟨"java/lang/Object", "clone", "()Ljava/lang/Object;"⟩).before a0 Z = true) (w6 : (Cond.castable ad "java/lang/Cloneable").before a0 Z = true)
    (eT : T.heap = h) (O : Ow K Z h n0 D) (hK : (K t).1 = .array ty) {cap : Nat} (hq : cA' D a t cap = some D') {g : JFrame} (hg : g.method = m) (hsize : g.locals.size = c.maxLocals) {rest : List Value} (hs : g.stack = .ref (n0 + a) :: rest) (hd : decode c.code g.pc = .ok (.invokevirtual index, 3))
    (hf : 1 ≤ R.frames) {W : Nat} (hW : 2 * g.monitorRoom + (rest.map fun v => v.category).sum ≤ W) (hl : W + 14 ≤ R.locals) (hc : cells + 1 ≤ R.cells) (hsl : slots + cap ≤ R.slots) :
    ∃ T' h', Stand p l e R s m args below meth c T' locs (cells + 1) (slots + cap) ∧ T'.heap = h' ∧ Ow K Z h' n0 D' ∧ ∀ target, Steps p.tables e below (T'.setTop { g with pc := g.pc + 3, stack := .ref (n0 + D.length) :: rest }) target → Steps p.tables e below (T.setTop g) target := by
  obtain ⟨vs, h1, h2, rfl⟩ := cA_e hq
  obtain ⟨E, cl, A, hsl', hlen, hfit⟩ := (O.2 a t vs h1).1 ty hK
  rw [← had] at E
  obtain ⟨c2, k, e1, e2, e3, e4, e5⟩ := E
  cases A.1.symm.trans e1
  obtain ⟨c1, cC, g1, g2, g3⟩ := Cond.castable_spec w6
  cases e2.symm.trans g1
  have hal : Z.vm.Alike T.vm := hZ.alike.trans X.warmed.alike
  have hsz : cl.slots.size = vs.length := by rw [hsl', sh_len]
  have hfc : ∀ i v, cl.slots[i]? = some v → Z.fitsSlot cl.cls .none i v = true := fun i v hv => by
    obtain ⟨-, k2, hk2, comp, hkind⟩ := A.2.1
    have e : Z.slotType? cl.cls .none i = some ty := by simp [State.slotType?, hk2, hkind]
    have hv' : ∃ w ∈ vs, sh n0 w = v := by
      rw [hsl'] at hv
      have hm : v ∈ vs.map (sh n0) := by
        have := Array.mem_of_getElem? hv
        simpa using this
      exact List.mem_map.mp hm
    obtain ⟨w, hw, rfl⟩ := hv'
    have hfw : fits ty (sh n0 w) = true := by
      have := hfit w hw
      cases w <;> first | exact this | (cases ty <;> first | (cases this; done) | rfl)
    simpa [State.fitsSlot, e] using hfw
  obtain ⟨vm', X', st⟩ := X.cloneArray hx hown (mv hZ w1) (mv hZ w2) (mv hZ w3) (mv hZ w4) (mv hZ w5) (a := n0 + a) (by rw [eT]; exact A.1) A.2.1.1 A.2.2 (by rw [hZ.alike.findClass]; exact e2) (by rw [hZ.alike.findClass]; exact g2) (by rw [hZ.alike.assignable]; exact g3)
    (fun i v hv => by have q := hfc i v hv; rw [← State.fitsSlot_setVm hal] at q; exact q) hg hsize hs hd hf (by omega) hc (by omega)
    (by obtain ⟨-, k2, hk2, comp, hkind⟩ := A.2.1; rw [hZ.alike.clonesLoader]; exact Vm.clonesLoader_of_array hk2 hkind)
  subst eT
  have hs0 := O.1
  refine ⟨_, _, X'.more (Nat.le_refl _) (by omega), rfl, O.push (h' := T.heap.push _) ⟨by simp, fun a c h => ?_⟩ (by simp) ⟨fun ty' hK' => ?_, fun C hK' => by rw [hK] at hK'; cases hK'⟩, by rw [← hs0]; exact st⟩
  · rw [Array.getElem?_push_lt (Array.getElem?_eq_some_iff.mp h).1]; exact (Array.getElem?_eq_getElem _).symm.trans h
  · cases hK.symm.trans hK'
    rw [← hs0, ← had]
    exact ⟨⟨_, k, Array.getElem?_push_size, e2, e3, rfl, e5⟩, _, ⟨Array.getElem?_push_size, ⟨fun _ z => (by cases z), A.2.1.2⟩, fun z => (by cases z)⟩, hsl', hlen, hfit⟩
theorem castW (X : Stand p l e R s m args below meth c T locs cells slots) (hx : p.tables.exec = Jvm.exec) (hZ : Z.Warmed39 s.vm) {own ad : String} {index : Nat} {ty : FieldType} (hown : s.vm.findClass own = some m.cls) (w : (Cond.classLink own index ad).before a0 Z = true) (had : ad = "[" ++ ty.toString) (eT : T.heap = h) (O : Ow K Z h n0 D) {q : Nat} (hck : ck D a t = some q) (hK : (K t).1 = .array ty)
    {g : JFrame} (hg : g.method = m) {rest : List Value} (hs : g.stack = .ref (n0 + a) :: rest) (hd : decode c.code g.pc = .ok (.checkcast index, 3)) : ∃ T', Stand p l e R s m args below meth c T' locs cells slots ∧ T'.heap = h ∧ ∀ target, Steps p.tables e below (T'.setTop { g with pc := g.pc + 3 }) target → Steps p.tables e below (T.setTop g) target := by
  obtain ⟨vs, h1⟩ := ck_e hck
  obtain ⟨E, -⟩ := (O.2 a t vs h1).1 ty hK
  rw [← had] at E
  exact castY X hx hZ hown w eT (Ins.self E) hg hs hd
end OwnLaws
/-! System.arraycopy of ints from place 0 to place 0 -/
def cp0 (D : Hp) (a b t : Nat) (n : Int32) : Option Hp := (D[a]?).bind fun ob => (D[b]?).bind fun ob' => if ob.1 = t then (if ob'.1 = t then (if n < 0 then none else if n.toNatClampNeg ≤ ob.2.length then (if n.toNatClampNeg ≤ ob'.2.length then some (D.set b (t, ob.2.take n.toNatClampNeg ++ ob'.2.drop n.toNatClampNeg)) else none) else none) else none) else none
section OwnCopy
variable {p : Program} {l : Launch} {e : Env} {R : Room} {s : State} {m : MethodId} {args : Array Value} {below : List Frame} {meth : Method} {c : Code} {T : State} {locs : List Loc} {cells slots : Nat} {Z : State} {a0 : Array Value} {h : Heap} {K : Kt} {n0 : Nat} {D D' : Hp} {a b t : Nat} {n : Int32}
theorem cp0_e (hg : cp0 D a b t n = some D') : ∃ vs vd, D[a]? = some (t, vs) ∧ D[b]? = some (t, vd) ∧ ¬ n < 0 ∧ n.toNatClampNeg ≤ vs.length ∧ n.toNatClampNeg ≤ vd.length ∧ D' = D.set b (t, vs.take n.toNatClampNeg ++ vd.drop n.toNatClampNeg) := by
  obtain ⟨⟨t1, vs⟩, h1, hg⟩ := own_bind hg
  obtain ⟨⟨t2, vd⟩, h2, hg⟩ := own_bind hg
  by_cases q1 : t1 = t
  · subst q1; rw [if_pos rfl] at hg
    by_cases q2 : t2 = t1
    · subst q2; rw [if_pos rfl] at hg
      by_cases q3 : n < 0
      · rw [if_pos q3] at hg; cases hg
      · rw [if_neg q3] at hg
        by_cases q4 : n.toNatClampNeg ≤ vs.length
        · rw [if_pos q4] at hg
          by_cases q5 : n.toNatClampNeg ≤ vd.length
          · rw [if_pos q5] at hg; cases hg; exact ⟨vs, vd, h1, h2, q3, q4, q5, rfl⟩
          · rw [if_neg q5] at hg; cases hg
        · rw [if_neg q4] at hg; cases hg
    · rw [if_neg q2] at hg; cases hg
  · rw [if_neg q1] at hg; cases hg
theorem Ob1.at {h' : Heap} {x k : Nat} {vs : List Value} (B : Ob1 K Z h n0 x k vs) (q : h'[x]? = h[x]?) : Ob1 K Z h' n0 x k vs := by
  refine ⟨fun ty hK => ?_, fun C hK => ?_⟩
  · obtain ⟨⟨c0, k0, e0, r0⟩, c, A, r⟩ := B.1 ty hK
    exact ⟨⟨c0, k0, q.trans e0, r0⟩, c, ⟨q.trans A.1, A.2⟩, r⟩
  · obtain ⟨⟨c0, k0, e0, r0⟩, F⟩ := B.2 C hK
    refine ⟨⟨c0, k0, q.trans e0, r0⟩, fun i f d hi => ?_⟩
    obtain ⟨v, h1, cell, cf, kk, ii, ff, g1, g2⟩ := F i f d hi
    exact ⟨v, h1, cell, cf, kk, ii, ff, q.trans g1, g2⟩
theorem cpW (X : Stand p l e R s m args below meth c T locs cells slots) (hx : p.tables.exec = Jvm.exec) (hZ : Z.Warmed39 s.vm) {own : String} {index : Nat} (hown : s.vm.findClass own = some m.cls)
    (w1 : (Cond.methodLink own index Jvm.Stand.acN).before a0 Z = true) (w2 : (Cond.native Jvm.Stand.acN).before a0 Z = true) (w3 : (Cond.static Jvm.Stand.acN).before a0 Z = true) (w4 : (Cond.initialized "java/lang/System").before a0 Z = true) (eT : T.heap = h) (O : Ow K Z h n0 D) (N : Fr n0 locs)
    (hq : cp0 D a b t n = some D') (hK : (K t).1 = .array .int) {g : JFrame} (hg : g.method = m) (hsize : g.locals.size = c.maxLocals) {rest : List Value} (hs : g.stack = .int n :: .int (0 : Int32) :: .ref (n0 + b) :: .int (0 : Int32) :: .ref (n0 + a) :: rest) (hd : decode c.code g.pc = .ok (.invokestatic index, 3))
    (hf : 1 ≤ R.frames) {W : Nat} (hW : 2 * g.monitorRoom + (rest.map fun v => v.category).sum ≤ W) (hlo : W + (nativeFrameWords "java/lang/System" "arraycopy" 5 + 11) ≤ R.locals) :
    ∃ T' h' L, Stand p l e R s m args below meth c T' L cells slots ∧ T'.heap = h' ∧ Ow K Z h' n0 D' ∧ Fr n0 L ∧ ∀ target, Steps p.tables e below (T'.setTop { g with pc := g.pc + 3, stack := rest }) target → Steps p.tables e below (T.setTop g) target := by
  obtain ⟨vs, vd, h1, h2, h3, h4, h5, rfl⟩ := cp0_e hq
  obtain ⟨-, cs, As, es, ls, fs⟩ := (O.2 a t vs h1).1 .int hK
  obtain ⟨Ed, cd, Ad, ed, ld, fd⟩ := (O.2 b t vd h2).1 .int hK
  obtain ⟨os, ks, hks, sc, hsk⟩ := State.isArrayOf_alike hZ.alike As.2.1
  obtain ⟨od, kd, hkd, dc, hdk⟩ := State.isArrayOf_alike hZ.alike Ad.2.1
  have ss : cs.slots.size = vs.length := by rw [es, sh_len]
  have sd : cd.slots.size = vd.length := by rw [ed, sh_len]
  have e0 : (0 : Int32).toNatClampNeg = 0 := rfl
  have en : n.toInt = n.toNatClampNeg := nat_of h3
  have gv : ∀ i, i < n.toNatClampNeg → ∃ w, vs[i]? = some w ∧ fits .int w = true ∧ cs.slots.getD (0 + i) .null = sh n0 w := fun i hi => by
    have hlt : i < vs.length := by omega
    refine ⟨vs[i], List.getElem?_eq_getElem hlt, fs _ (List.getElem_mem hlt), ?_⟩
    rw [es, Array.getD_eq_getD_getElem?]
    simp [List.getElem?_eq_getElem hlt]
  have gi : ∀ {w : Value}, fits .int w = true → ∃ x, sh n0 w = .int x := fun {w} hw => by
    cases w <;> first | (cases hw; done) | exact ⟨_, rfl⟩
  obtain ⟨vm₁, hW₁, X', st⟩ := X.arraycopyK hx hown (mvT hZ w1) (mvT hZ w2) (mvT hZ w3) (mvT hZ w4) (src := n0 + a) (dst := n0 + b) (srcPos := 0) (destPos := 0) (n := n) (by rw [eT]; exact As.1) (by rw [eT]; exact Ad.1) os od As.2.2 Ad.2.2 hks hkd hsk hdk (by rfl) (by decide) (by decide) h3
    (by rw [ss, en]; have : (0 : Int32).toInt = 0 := rfl; omega) (by rw [sd, en]; have : (0 : Int32).toInt = 0 := rfl; omega) (fun vm₁ hw i hi => by
      obtain ⟨w, q1, q2, q3⟩ := gv i hi
      obtain ⟨x, q4⟩ := gi q2
      rw [e0, q3, q4]; exact ⟨rfl, trivial⟩) hg hsize hs hd hf (by omega)
  have cf := cd.storeRun_facts 0 (cs.stretch 0 n.toNatClampNeg)
  have hb : n0 + b < h.size := Ad.lt
  have hget : (h.setIfInBounds (n0 + b) (cd.storeRun 0 (cs.stretch 0 n.toNatClampNeg)))[n0 + b]? = some (cd.storeRun 0 (cs.stretch 0 n.toNatClampNeg)) := by rw [Array.getElem?_setIfInBounds_self_of_lt hb]
  have eh : ((T.setVm vm₁).setCell (n0 + b) (copied cs cd 0 0 n)).heap = h.setIfInBounds (n0 + b) (cd.storeRun 0 (cs.stretch 0 n.toNatClampNeg)) := by rw [← eT]; rfl
  have sl : (cs.stretch 0 n.toNatClampNeg).length = n.toNatClampNeg := by simp [Cell.stretch]
  refine ⟨_, _, _, X', eh, ⟨by simp only [Array.size_setIfInBounds, List.length_set]; exact O.1, fun k t' vs' hk => ?_⟩, N.app fun y hy => by rw [copyLocs_base hy]; exact Nat.le_add_right _ _, st⟩
  rcases own_get_set hk with ⟨rfl, e', -⟩ | ⟨hne, hk'⟩
  · cases e'
    refine ⟨fun ty' hK' => ?_, fun C hK' => by rw [hK] at hK'; cases hK'⟩
    cases hK.symm.trans hK'
    obtain ⟨c3, k3, g1, g2, g3, g4, g5⟩ := Ed
    cases g1.symm.trans Ad.1
    refine ⟨⟨_, k3, hget, by rw [cf.1]; exact g2, by rw [cf.1]; exact g3, by rw [cf.2.1]; exact g4, by rw [cf.2.2.1]; exact g5⟩, _, ⟨hget, ?_, by rw [cf.2.1]; exact Ad.2.2⟩, ?_, ?_, fun v hv => ?_⟩
    · have := Ad.2.1; unfold State.isArrayOf at this ⊢; rw [cf.1, cf.2.1]; exact this
    · apply Array.ext_getElem?
      intro j
      rw [Cell.storeRun_get _ _ _ _ (by rw [sl, sd]; omega), sl]
      by_cases c1 : j < n.toNatClampNeg
      · rw [if_pos ⟨Nat.zero_le _, by omega⟩]
        obtain ⟨w, q1, q2, q3⟩ := gv j c1
        have : (cs.stretch 0 n.toNatClampNeg)[j - 0]? = some (sh n0 w) := by simp [Cell.stretch, c1, ← q3]
        rw [this]
        simp only [List.getElem?_toArray, List.getElem?_map]
        rw [List.getElem?_append_left (by rw [List.length_take]; omega), List.getElem?_take_of_lt c1, q1]; rfl
      · rw [if_neg (by omega), ed]
        simp only [List.getElem?_toArray, List.getElem?_map]
        rw [List.getElem?_append_right (by rw [List.length_take]; omega), List.length_take, List.getElem?_drop, show n.toNatClampNeg + (j - min n.toNatClampNeg vs.length) = j by omega]
    · rw [List.length_append, List.length_take, List.length_drop]; omega
    · rcases List.mem_append.mp hv with q | q
      · exact fs v (List.mem_of_mem_take q)
      · exact fd v (List.mem_of_mem_drop q)
  · exact (O.2 k t' vs' hk').at (by rw [Array.getElem?_setIfInBounds_ne (by omega)])
end OwnCopy
def Kt1 : Kt := fun k => match k with
  | 0 => ((.array .int), [])
  | 1 => ((.object "com/example/planar_drawing_kit/planardrawingkit/inspect/SweepLine"), [("edgeAt", "[I"), ("left", "[I"), ("right", "[I"), ("parent", "[I"), ("priority", "[I"), ("below", "[I"), ("above", "[I"), ("root", "I"), ("lowest", "I"), ("highest", "I"), ("free", "I"), ("random", "I"), ("nodeOf", "[I"), ("used", "I")])
  | _ => (.int, [])
theorem lay1 {Z : State} {a0 : Array Value} (hw : ∀ d ∈ tables_1, d.before a0 Z = true) : Lay Kt1 Z a0 := by
  intro t C hC
  match t, hC with
  | 0, hC => cases hC
  | 1, hC =>
    cases hC
    refine ⟨fun q hq => ?_, by decide⟩
    have hq' : q ∈ [(("edgeAt", "[I") : String × String), (("left", "[I") : String × String), (("right", "[I") : String × String), (("parent", "[I") : String × String), (("priority", "[I") : String × String), (("below", "[I") : String × String), (("above", "[I") : String × String), (("root", "I") : String × String), (("lowest", "I") : String × String), (("highest", "I") : String × String), (("free", "I") : String × String), (("random", "I") : String × String), (("nodeOf", "[I") : String × String), (("used", "I") : String × String)] := hq
    simp only [List.mem_cons, List.not_mem_nil, or_false] at hq'
    rcases hq' with rfl | rfl | rfl | rfl | rfl | rfl | rfl | rfl | rfl | rfl | rfl | rfl | rfl | rfl
    · exact ⟨Or.inl (hw _ (List.mem_of_getElem? (i := 12) rfl)), _, (by decide : parseFieldDescriptor _ = some (.array .int))⟩
    · exact ⟨Or.inl (hw _ (List.mem_of_getElem? (i := 14) rfl)), _, (by decide : parseFieldDescriptor _ = some (.array .int))⟩
    · exact ⟨Or.inl (hw _ (List.mem_of_getElem? (i := 16) rfl)), _, (by decide : parseFieldDescriptor _ = some (.array .int))⟩
    · exact ⟨Or.inl (hw _ (List.mem_of_getElem? (i := 18) rfl)), _, (by decide : parseFieldDescriptor _ = some (.array .int))⟩
    · exact ⟨Or.inl (hw _ (List.mem_of_getElem? (i := 20) rfl)), _, (by decide : parseFieldDescriptor _ = some (.array .int))⟩
    · exact ⟨Or.inl (hw _ (List.mem_of_getElem? (i := 22) rfl)), _, (by decide : parseFieldDescriptor _ = some (.array .int))⟩
    · exact ⟨Or.inl (hw _ (List.mem_of_getElem? (i := 24) rfl)), _, (by decide : parseFieldDescriptor _ = some (.array .int))⟩
    · exact ⟨Or.inl (hw _ (List.mem_of_getElem? (i := 26) rfl)), _, (by decide : parseFieldDescriptor _ = some .int)⟩
    · exact ⟨Or.inl (hw _ (List.mem_of_getElem? (i := 28) rfl)), _, (by decide : parseFieldDescriptor _ = some .int)⟩
    · exact ⟨Or.inl (hw _ (List.mem_of_getElem? (i := 30) rfl)), _, (by decide : parseFieldDescriptor _ = some .int)⟩
    · exact ⟨Or.inl (hw _ (List.mem_of_getElem? (i := 32) rfl)), _, (by decide : parseFieldDescriptor _ = some .int)⟩
    · exact ⟨Or.inl (hw _ (List.mem_of_getElem? (i := 35) rfl)), _, (by decide : parseFieldDescriptor _ = some .int)⟩
    · exact ⟨Or.inr (hw _ (List.mem_of_getElem? (i := 37) rfl)), _, (by decide : parseFieldDescriptor _ = some (.array .int))⟩
    · exact ⟨Or.inl (hw _ (List.mem_of_getElem? (i := 52) rfl)), _, (by decide : parseFieldDescriptor _ = some .int)⟩
  | n + 2, hC => cases hC
theorem d3_0 : decode jdk_65_method_103_code 0 = .ok (.iconst 0, 1) := by decide +kernel
theorem d3_1 : decode jdk_65_method_103_code 1 = .ok (.istore_n 2, 1) := by decide +kernel
theorem d3_2 : decode jdk_65_method_103_code 2 = .ok (.aload_n 0, 1) := by decide +kernel
theorem d3_3 : decode jdk_65_method_103_code 3 = .ok (.arraylength, 1) := by decide +kernel
theorem d3_4 : decode jdk_65_method_103_code 4 = .ok (.istore_n 3, 1) := by decide +kernel
theorem d3_5 : decode jdk_65_method_103_code 5 = .ok (.iload_n 2, 1) := by decide +kernel
theorem d3_6 : decode jdk_65_method_103_code 6 = .ok (.iload_n 3, 1) := by decide +kernel
theorem d3_7 : decode jdk_65_method_103_code 7 = .ok (.if_icmp .ge 13, 3) := by decide +kernel
theorem d3_10 : decode jdk_65_method_103_code 10 = .ok (.aload_n 0, 1) := by decide +kernel
theorem d3_11 : decode jdk_65_method_103_code 11 = .ok (.iload_n 2, 1) := by decide +kernel
theorem d3_12 : decode jdk_65_method_103_code 12 = .ok (.iload_n 1, 1) := by decide +kernel
theorem d3_13 : decode jdk_65_method_103_code 13 = .ok (.iastore, 1) := by decide +kernel
theorem d3_14 : decode jdk_65_method_103_code 14 = .ok (.iinc 2 1, 3) := by decide +kernel
theorem d3_17 : decode jdk_65_method_103_code 17 = .ok (.goto (-12), 3) := by decide +kernel
theorem d3_20 : decode jdk_65_method_103_code 20 = .ok (.return_, 1) := by decide +kernel
theorem pn_3 : plainName "java/util/Arrays" = true := by first | (simp [plainName, overriddenIn]; done) | decide +kernel
def b3_5 : Nat → Hp → Nat → Int32 → Int32 → Int32 → Option (Hp)
  | 0, _, _, _, _, _ => none
  | fu + 1, D, ob0, i1, i2, i3 =>
  if i2 < i3 then ((wV D ob0 0 i2 (.int i1)).bind fun D3 =>
  b3_5 fu D3 ob0 i1 (i2 + (1 : Int32)) i3) else (some D)
set_option maxRecDepth 65536 in
set_option maxHeartbeats 40000000 in
theorem bt3_5 {p : Program} {l : Launch} {e : Env} {s : State} {m : MethodId} {args : Array Value} {below : List Frame} {meth : Method} {c : Code} {Z : State} {a0 : Array Value} {n0 : Nat} {D' : Hp} (hw : ∀ d ∈ tables_1, d.before a0 Z = true) (hC : Cx p s m meth c Z jdk_65_method_103_code 4 none "java/util/Arrays" "fill") (fu : Nat) : ∀ {T0 : State} {locs : List Loc} {cells slots : Nat} {h0 : Heap} {D : Hp} {ob0 : Nat} {i1 : Int32} {i2 : Int32} {i3 : Int32}, (Stand p l e ({ frames := 0, cells := 0, slots := 0, locals := 0 } : Room) s m args below meth c T0 locs cells slots) → (T0.heap = h0) → (Ow Kt1 Z h0 n0 D) → (Fr n0 locs) → (cells ≤ 0) → (slots ≤ 0) → (b3_5 fu D ob0 i1 i2 i3 = some D') → Gl p e below s 0 0 (Qw Kt1 Z n0 none D') (T0.setTop (mkF m 5 #[.val (.ref (n0 + ob0)), .val (.int i1), .val (.int i2), .val (.int i3)] [])) := by
  obtain ⟨hx, hZ, hby, hml, hown, hnm, hret, hlk⟩ := id hC
  have hml : c.maxLocals = 4 := hml
  induction fu with
  | zero => intro T0 locs cells slots h0 D ob0 i1 i2 i3 X0 e0 O0 N0 hcc hss hf; cases hf
  | succ fu ih =>
    intro T0 locs cells slots h0 D ob0 i1 i2 i3 X0 e0 O0 N0 hcc hss hf
    rw [b3_5] at hf
    refine Gl.on (B := T0.setTop (mkF m 7 #[.val (.ref (n0 + ob0)), .val (.int i1), .val (.int i2), .val (.int i3)] [(.int i3), (.int i2)])) (fun t k => ?_) ?_
    · show Steps p.tables e below (T0.setTop (mkF m 5 #[.val (.ref (n0 + ob0)), .val (.int i1), .val (.int i2), .val (.int i3)] [])) _
      refine XS.iloadN X0.here hx rfl (hb hby d3_5) rfl ?_
      show Steps p.tables e below (T0.setTop (mkF m 6 #[.val (.ref (n0 + ob0)), .val (.int i1), .val (.int i2), .val (.int i3)] [(.int i2)])) _
      refine XS.iloadN X0.here hx rfl (hb hby d3_6) rfl ?_
      exact k
    by_cases hc2 : i2 < i3
    · rw [if_pos hc2] at hf
      obtain ⟨D3, hq3, hf⟩ := own_bind hf
      obtain ⟨T3, h3, L3, X3, e3, O3, N3, st3⟩ := stIW X0 hx hZ e0 O0 N0 hq3 rfl (g := (mkF m 13 #[.val (.ref (n0 + ob0)), .val (.int i1), .val (.int i2), .val (.int i3)] [(.int i1), (.int i2), (.ref (n0 + ob0))])) rfl rfl (hb hby d3_13)
      refine Gl.on (B := T3.setTop (mkF m 5 #[.val (.ref (n0 + ob0)), .val (.int i1), .val (.int (i2 + (1 : Int32))), .val (.int i3)] [])) (fun t k => ?_) ?_
      · show Steps p.tables e below (T0.setTop (mkF m 7 #[.val (.ref (n0 + ob0)), .val (.int i1), .val (.int i2), .val (.int i3)] [(.int i3), (.int i2)])) _
        refine XS.icmpNo X0.here hx rfl (hb hby d3_7) rfl (tlt hc2).2.1 ?_
        show Steps p.tables e below (T0.setTop (mkF m 10 #[.val (.ref (n0 + ob0)), .val (.int i1), .val (.int i2), .val (.int i3)] [])) _
        refine XS.aloadN X0.here hx rfl (hb hby d3_10) rfl rfl ?_
        show Steps p.tables e below (T0.setTop (mkF m 11 #[.val (.ref (n0 + ob0)), .val (.int i1), .val (.int i2), .val (.int i3)] [(.ref (n0 + ob0))])) _
        refine XS.iloadN X0.here hx rfl (hb hby d3_11) rfl ?_
        show Steps p.tables e below (T0.setTop (mkF m 12 #[.val (.ref (n0 + ob0)), .val (.int i1), .val (.int i2), .val (.int i3)] [(.int i2), (.ref (n0 + ob0))])) _
        refine XS.iloadN X0.here hx rfl (hb hby d3_12) rfl ?_
        show Steps p.tables e below (T0.setTop (mkF m 13 #[.val (.ref (n0 + ob0)), .val (.int i1), .val (.int i2), .val (.int i3)] [(.int i1), (.int i2), (.ref (n0 + ob0))])) _
        refine st3 _ ?_
        show Steps p.tables e below (T3.setTop (mkF m 14 #[.val (.ref (n0 + ob0)), .val (.int i1), .val (.int i2), .val (.int i3)] [])) _
        refine XS.iinc X3.here hx rfl (hb hby d3_14) rfl (l' := #[.val (.ref (n0 + ob0)), .val (.int i1), .val (.int (i2 + (1 : Int32))), .val (.int i3)]) rfl ?_
        show Steps p.tables e below (T3.setTop (mkF m 17 #[.val (.ref (n0 + ob0)), .val (.int i1), .val (.int (i2 + (1 : Int32))), .val (.int i3)] [])) _
        refine XS.goto X3.here hx rfl (pc0 := 17) (pc' := 5) rfl (hb hby d3_17) (by decide) (by decide) ?_
        exact k
      exact ih X3 e3 O3 N3 (by omega) (by omega) hf
    · rw [if_neg hc2] at hf
      refine Gl.on (B := T0.setTop (mkF m 20 #[.val (.ref (n0 + ob0)), .val (.int i1), .val (.int i2), .val (.int i3)] [])) (fun t k => ?_) ?_
      · show Steps p.tables e below (T0.setTop (mkF m 7 #[.val (.ref (n0 + ob0)), .val (.int i1), .val (.int i2), .val (.int i3)] [(.int i3), (.int i2)])) _
        refine XS.icmpYes X0.here hx rfl (pc0 := 7) (pc' := 20) rfl (hb hby d3_7) rfl (flt hc2).2.1 (by decide) (by decide) ?_
        exact k
      obtain rfl := own_inj1 hf
      exact Gl.outV X0 hx hlk hret (hb hby d3_20) ⟨rfl, N0, by rw [e0]; exact O0⟩ (by show _ ≤ 0; omega) (by show _ ≤ 0; omega)
def f3 (D : Hp) (ob0 : Nat) (i1 : Int32) : Option (Hp) :=
  (lA D ob0 0).bind fun x1 =>
  b3_5 12 D ob0 i1 (0 : Int32) x1
theorem ef_3 (m : MethodId) (n0 : Nat) (ob0 : Nat) (i1 : Int32) : entryFrame m #[(.ref (n0 + ob0)), (.int i1)] 4 = mkF m 0 #[.val (.ref (n0 + ob0)), .val (.int i1), .unset, .unset] [] := by first | (simp [entryFrame, mkF, argsToLocals, Value.category]; done) | rfl
set_option maxRecDepth 65536 in
set_option maxHeartbeats 40000000 in
theorem ct3 {l : Launch} {Z : State} {a0 : Array Value} (hw : ∀ d ∈ tables_1, d.before a0 Z = true) {n0 : Nat} {D D' : Hp} {ob0 : Nat} {i1 : Int32} (hf : f3 D ob0 i1 = some D') :
    Ct Kt1 l Z (⟨"java/util/Arrays", "fill", "([II)V"⟩ : MethodName) (.code (⟨"java/util/Arrays", "fill", "([II)V"⟩ : MethodName) jdk_65_method_103_code 4 none) ({ frames := 0, cells := 0, slots := 0, locals := 0 } : Room) n0 D #[(.ref (n0 + ob0)), (.int i1)] none D' := by
  refine Ct.of (plainFor_of_name pn_3) ?_
  intro p e s m below meth c T0 h0 hC X0 e0 O0
  obtain ⟨hx, hZ, hby, hml, hown, hnm, hret, hlk⟩ := id hC
  have hml : c.maxLocals = 4 := hml
  have hown : s.vm.findClass "java/util/Arrays" = some m.cls := hown
  have hnm : meth.name = "fill" := hnm
  have N0 := Fr.nil n0
  refine Gl.on (fun t k => castTop (ef_3 m n0 ob0 i1) k) ?_
  rw [f3] at hf
  obtain ⟨x1, hx1, hf⟩ := own_bind hf
  refine Gl.on (B := T0.setTop (mkF m 5 #[.val (.ref (n0 + ob0)), .val (.int i1), .val (.int (0 : Int32)), .val (.int x1)] [])) (fun t k => ?_) ?_
  · show Steps p.tables e below (T0.setTop (mkF m 0 #[.val (.ref (n0 + ob0)), .val (.int i1), .unset, .unset] [])) _
    refine XS.iconst X0.here hx rfl (hb hby d3_0) ?_
    show Steps p.tables e below (T0.setTop (mkF m 1 #[.val (.ref (n0 + ob0)), .val (.int i1), .unset, .unset] [(.int (0 : Int32))])) _
    refine XS.istoreN X0.here hx rfl (hb hby d3_1) rfl (l' := #[.val (.ref (n0 + ob0)), .val (.int i1), .val (.int (0 : Int32)), .unset]) rfl ?_
    show Steps p.tables e below (T0.setTop (mkF m 2 #[.val (.ref (n0 + ob0)), .val (.int i1), .val (.int (0 : Int32)), .unset] [])) _
    refine XS.aloadN X0.here hx rfl (hb hby d3_2) rfl rfl ?_
    show Steps p.tables e below (T0.setTop (mkF m 3 #[.val (.ref (n0 + ob0)), .val (.int i1), .val (.int (0 : Int32)), .unset] [(.ref (n0 + ob0))])) _
    refine lenW' X0 hx hZ e0 O0 hx1 (ty := .int) rfl (g := (mkF m 3 #[.val (.ref (n0 + ob0)), .val (.int i1), .val (.int (0 : Int32)), .unset] [(.ref (n0 + ob0))])) rfl rfl (hb hby d3_3) _ ?_
    show Steps p.tables e below (T0.setTop (mkF m 4 #[.val (.ref (n0 + ob0)), .val (.int i1), .val (.int (0 : Int32)), .unset] [(.int x1)])) _
    refine XS.istoreN X0.here hx rfl (hb hby d3_4) rfl (l' := #[.val (.ref (n0 + ob0)), .val (.int i1), .val (.int (0 : Int32)), .val (.int x1)]) rfl ?_
    exact k
  exact bt3_5 hw hC 12 X0 e0 O0 N0 (by omega) (by omega) hf
theorem pd_0 : parseMethodDescriptor "([II)V" = some ⟨[(.array .int), .int], none⟩ := by decide +kernel
theorem d1_0 : decode prog_99_method_1_code 0 = .ok (.aload_n 0, 1) := by decide +kernel
theorem d1_1 : decode prog_99_method_1_code 1 = .ok (.invokespecial 1, 3) := by decide +kernel
theorem d1_4 : decode prog_99_method_1_code 4 = .ok (.aload_n 0, 1) := by decide +kernel
theorem d1_5 : decode prog_99_method_1_code 5 = .ok (.iconst 0, 1) := by decide +kernel
theorem d1_6 : decode prog_99_method_1_code 6 = .ok (.newarray .int, 2) := by decide +kernel
theorem d1_8 : decode prog_99_method_1_code 8 = .ok (.putfield 7, 3) := by decide +kernel
theorem d1_11 : decode prog_99_method_1_code 11 = .ok (.aload_n 0, 1) := by decide +kernel
theorem d1_12 : decode prog_99_method_1_code 12 = .ok (.iconst 0, 1) := by decide +kernel
theorem d1_13 : decode prog_99_method_1_code 13 = .ok (.newarray .int, 2) := by decide +kernel
theorem d1_15 : decode prog_99_method_1_code 15 = .ok (.putfield 13, 3) := by decide +kernel
theorem d1_18 : decode prog_99_method_1_code 18 = .ok (.aload_n 0, 1) := by decide +kernel
theorem d1_19 : decode prog_99_method_1_code 19 = .ok (.iconst 0, 1) := by decide +kernel
theorem d1_20 : decode prog_99_method_1_code 20 = .ok (.newarray .int, 2) := by decide +kernel
theorem d1_22 : decode prog_99_method_1_code 22 = .ok (.putfield 16, 3) := by decide +kernel
theorem d1_25 : decode prog_99_method_1_code 25 = .ok (.aload_n 0, 1) := by decide +kernel
theorem d1_26 : decode prog_99_method_1_code 26 = .ok (.iconst 0, 1) := by decide +kernel
theorem d1_27 : decode prog_99_method_1_code 27 = .ok (.newarray .int, 2) := by decide +kernel
theorem d1_29 : decode prog_99_method_1_code 29 = .ok (.putfield 19, 3) := by decide +kernel
theorem d1_32 : decode prog_99_method_1_code 32 = .ok (.aload_n 0, 1) := by decide +kernel
theorem d1_33 : decode prog_99_method_1_code 33 = .ok (.iconst 0, 1) := by decide +kernel
theorem d1_34 : decode prog_99_method_1_code 34 = .ok (.newarray .int, 2) := by decide +kernel
theorem d1_36 : decode prog_99_method_1_code 36 = .ok (.putfield 22, 3) := by decide +kernel
theorem d1_39 : decode prog_99_method_1_code 39 = .ok (.aload_n 0, 1) := by decide +kernel
theorem d1_40 : decode prog_99_method_1_code 40 = .ok (.iconst 0, 1) := by decide +kernel
theorem d1_41 : decode prog_99_method_1_code 41 = .ok (.newarray .int, 2) := by decide +kernel
theorem d1_43 : decode prog_99_method_1_code 43 = .ok (.putfield 25, 3) := by decide +kernel
theorem d1_46 : decode prog_99_method_1_code 46 = .ok (.aload_n 0, 1) := by decide +kernel
theorem d1_47 : decode prog_99_method_1_code 47 = .ok (.iconst 0, 1) := by decide +kernel
theorem d1_48 : decode prog_99_method_1_code 48 = .ok (.newarray .int, 2) := by decide +kernel
theorem d1_50 : decode prog_99_method_1_code 50 = .ok (.putfield 28, 3) := by decide +kernel
theorem d1_53 : decode prog_99_method_1_code 53 = .ok (.aload_n 0, 1) := by decide +kernel
theorem d1_54 : decode prog_99_method_1_code 54 = .ok (.iconst (-1), 1) := by decide +kernel
theorem d1_55 : decode prog_99_method_1_code 55 = .ok (.putfield 31, 3) := by decide +kernel
theorem d1_58 : decode prog_99_method_1_code 58 = .ok (.aload_n 0, 1) := by decide +kernel
theorem d1_59 : decode prog_99_method_1_code 59 = .ok (.iconst (-1), 1) := by decide +kernel
theorem d1_60 : decode prog_99_method_1_code 60 = .ok (.putfield 35, 3) := by decide +kernel
theorem d1_63 : decode prog_99_method_1_code 63 = .ok (.aload_n 0, 1) := by decide +kernel
theorem d1_64 : decode prog_99_method_1_code 64 = .ok (.iconst (-1), 1) := by decide +kernel
theorem d1_65 : decode prog_99_method_1_code 65 = .ok (.putfield 38, 3) := by decide +kernel
theorem d1_68 : decode prog_99_method_1_code 68 = .ok (.aload_n 0, 1) := by decide +kernel
theorem d1_69 : decode prog_99_method_1_code 69 = .ok (.iconst (-1), 1) := by decide +kernel
theorem d1_70 : decode prog_99_method_1_code 70 = .ok (.putfield 41, 3) := by decide +kernel
theorem d1_73 : decode prog_99_method_1_code 73 = .ok (.aload_n 0, 1) := by decide +kernel
theorem d1_74 : decode prog_99_method_1_code 74 = .ok (.ldc 44, 2) := by decide +kernel
theorem d1_76 : decode prog_99_method_1_code 76 = .ok (.putfield 45, 3) := by decide +kernel
theorem d1_79 : decode prog_99_method_1_code 79 = .ok (.aload_n 0, 1) := by decide +kernel
theorem d1_80 : decode prog_99_method_1_code 80 = .ok (.iload_n 1, 1) := by decide +kernel
theorem d1_81 : decode prog_99_method_1_code 81 = .ok (.newarray .int, 2) := by decide +kernel
theorem d1_83 : decode prog_99_method_1_code 83 = .ok (.putfield 48, 3) := by decide +kernel
theorem d1_86 : decode prog_99_method_1_code 86 = .ok (.aload_n 0, 1) := by decide +kernel
theorem d1_87 : decode prog_99_method_1_code 87 = .ok (.getfield 48, 3) := by decide +kernel
theorem d1_90 : decode prog_99_method_1_code 90 = .ok (.iconst (-1), 1) := by decide +kernel
theorem d1_91 : decode prog_99_method_1_code 91 = .ok (.invokestatic 51, 3) := by decide +kernel
theorem d1_94 : decode prog_99_method_1_code 94 = .ok (.return_, 1) := by decide +kernel
theorem pn_1 : plainName "com/example/planar_drawing_kit/planardrawingkit/inspect/SweepLine" = true := by first | (simp [plainName, overriddenIn]; done) | decide +kernel
def f1 (D : Hp) (ob0 : Nat) (i1 : Int32) : Option (Hp) :=
  own_let (D.length) fun a2 => (nA D 0 (0 : Int32) 0 (.int (0 : Int32))).bind fun D2 =>
  (pV D2 ob0 1 0 (.ref a2)).bind fun D3 =>
  own_let (D3.length) fun a4 => (nA D3 0 (0 : Int32) 0 (.int (0 : Int32))).bind fun D4 =>
  (pV D4 ob0 1 1 (.ref a4)).bind fun D5 =>
  own_let (D5.length) fun a6 => (nA D5 0 (0 : Int32) 0 (.int (0 : Int32))).bind fun D6 =>
  (pV D6 ob0 1 2 (.ref a6)).bind fun D7 =>
  own_let (D7.length) fun a8 => (nA D7 0 (0 : Int32) 0 (.int (0 : Int32))).bind fun D8 =>
  (pV D8 ob0 1 3 (.ref a8)).bind fun D9 =>
  own_let (D9.length) fun a10 => (nA D9 0 (0 : Int32) 0 (.int (0 : Int32))).bind fun D10 =>
  (pV D10 ob0 1 4 (.ref a10)).bind fun D11 =>
  own_let (D11.length) fun a12 => (nA D11 0 (0 : Int32) 0 (.int (0 : Int32))).bind fun D12 =>
  (pV D12 ob0 1 5 (.ref a12)).bind fun D13 =>
  own_let (D13.length) fun a14 => (nA D13 0 (0 : Int32) 0 (.int (0 : Int32))).bind fun D14 =>
  (pV D14 ob0 1 6 (.ref a14)).bind fun D15 =>
  (pV D15 ob0 1 7 (.int (-1 : Int32))).bind fun D16 =>
  (pV D16 ob0 1 8 (.int (-1 : Int32))).bind fun D17 =>
  (pV D17 ob0 1 9 (.int (-1 : Int32))).bind fun D18 =>
  (pV D18 ob0 1 10 (.int (-1 : Int32))).bind fun D19 =>
  (pV D19 ob0 1 11 (.int (625341585 : Int32))).bind fun D20 =>
  own_let (D20.length) fun a21 => (nA D20 0 i1 4 (.int (0 : Int32))).bind fun D21 =>
  (pV D21 ob0 1 12 (.ref a21)).bind fun D22 =>
  (gR D22 ob0 1 12).bind fun x23 =>
  (f3 D22 x23 (-1 : Int32)).bind fun D25 =>
  some D25
theorem ef_1 (m : MethodId) (n0 : Nat) (ob0 : Nat) (i1 : Int32) : entryFrame m #[(.ref (n0 + ob0)), (.int i1)] 2 = mkF m 0 #[.val (.ref (n0 + ob0)), .val (.int i1)] [] := by first | (simp [entryFrame, mkF, argsToLocals, Value.category]; done) | rfl
set_option maxRecDepth 65536 in
set_option maxHeartbeats 40000000 in
theorem ct1 {l : Launch} {Z : State} {a0 : Array Value} (hw : ∀ d ∈ tables_1, d.before a0 Z = true) {n0 : Nat} {D D' : Hp} {ob0 : Nat} {i1 : Int32} (hf : f1 D ob0 i1 = some D') :
    Ct Kt1 l Z (⟨"com/example/planar_drawing_kit/planardrawingkit/inspect/SweepLine", "<init>", "(I)V"⟩ : MethodName) (.code (⟨"com/example/planar_drawing_kit/planardrawingkit/inspect/SweepLine", "<init>", "(I)V"⟩ : MethodName) prog_99_method_1_code 2 none) ({ frames := 1, cells := 8, slots := 4, locals := 15 } : Room) n0 D #[(.ref (n0 + ob0)), (.int i1)] none D' := by
  refine Ct.of (plainFor_of_name pn_1) ?_
  intro p e s m below meth c T0 h0 hC X0 e0 O0
  obtain ⟨hx, hZ, hby, hml, hown, hnm, hret, hlk⟩ := id hC
  have hml : c.maxLocals = 2 := hml
  have hown : s.vm.findClass "com/example/planar_drawing_kit/planardrawingkit/inspect/SweepLine" = some m.cls := hown
  have hnm : meth.name = "<init>" := hnm
  have N0 := Fr.nil n0
  refine Gl.on (fun t k => castTop (ef_1 m n0 ob0 i1) k) ?_
  rw [f1] at hf
  obtain ⟨T1, X1, e1, st1⟩ := initO X0 hx hZ hown (hw _ (List.mem_of_getElem? (i := 7) rfl)) (hw _ (List.mem_of_getElem? (i := 8) rfl)) (hw _ (List.mem_of_getElem? (i := 9) rfl)) e0 (g := (mkF m 1 #[.val (.ref (n0 + ob0)), .val (.int i1)] [(.ref (n0 + ob0))])) rfl (by rw [hml]; rfl) rfl (hb hby d1_1) (by decide) (W := 0) (by show 2 * 0 + _ ≤ _; exact Nat.le_of_eq rfl) (by decide)
  obtain ⟨a2, ha2, hf⟩ := own_letE hf
  obtain ⟨D2, hD2, hf⟩ := own_bind hf
  obtain ⟨T2, h2, X2, e2, O2, st2⟩ := newAW X1 hx hZ (aty := .int) (hw _ (List.mem_of_getElem? (i := 10) rfl)) e1 O0 rfl rfl hD2 (g := (mkF m 6 #[.val (.ref (n0 + ob0)), .val (.int i1)] [(.int (0 : Int32)), (.ref (n0 + ob0))])) rfl (hb hby d1_6) rfl (by decide) (by show _ + 1 ≤ 8; omega) (by show _ + 0 ≤ 4; omega)
  rw [ha2] at st2
  obtain ⟨D3, hq3, hf⟩ := own_bind hf
  obtain ⟨T3, h3, L3, X3, e3, O3, N3, st3⟩ := putW X2 hx hZ hown (hw _ (List.mem_of_getElem? (i := 11) rfl)) (lay1 hw) e2 O2 N0 hq3 rfl rfl (Or.inl (hw _ (List.mem_of_getElem? (i := 12) rfl))) (hw _ (List.mem_of_getElem? (i := 2) rfl)) (ty := (.array .int)) (by decide) rfl rfl (g := (mkF m 8 #[.val (.ref (n0 + ob0)), .val (.int i1)] [(.ref (n0 + a2)), (.ref (n0 + ob0))])) rfl rfl (hb hby d1_8)
  obtain ⟨a4, ha4, hf⟩ := own_letE hf
  obtain ⟨D4, hD4, hf⟩ := own_bind hf
  obtain ⟨T4, h4, X4, e4, O4, st4⟩ := newAW X3 hx hZ (aty := .int) (hw _ (List.mem_of_getElem? (i := 10) rfl)) e3 O3 rfl rfl hD4 (g := (mkF m 13 #[.val (.ref (n0 + ob0)), .val (.int i1)] [(.int (0 : Int32)), (.ref (n0 + ob0))])) rfl (hb hby d1_13) rfl (by decide) (by show _ + 1 ≤ 8; omega) (by show _ + 0 ≤ 4; omega)
  rw [ha4] at st4
  obtain ⟨D5, hq5, hf⟩ := own_bind hf
  obtain ⟨T5, h5, L5, X5, e5, O5, N5, st5⟩ := putW X4 hx hZ hown (hw _ (List.mem_of_getElem? (i := 13) rfl)) (lay1 hw) e4 O4 N3 hq5 rfl rfl (Or.inl (hw _ (List.mem_of_getElem? (i := 14) rfl))) (hw _ (List.mem_of_getElem? (i := 2) rfl)) (ty := (.array .int)) (by decide) rfl rfl (g := (mkF m 15 #[.val (.ref (n0 + ob0)), .val (.int i1)] [(.ref (n0 + a4)), (.ref (n0 + ob0))])) rfl rfl (hb hby d1_15)
  obtain ⟨a6, ha6, hf⟩ := own_letE hf
  obtain ⟨D6, hD6, hf⟩ := own_bind hf
  obtain ⟨T6, h6, X6, e6, O6, st6⟩ := newAW X5 hx hZ (aty := .int) (hw _ (List.mem_of_getElem? (i := 10) rfl)) e5 O5 rfl rfl hD6 (g := (mkF m 20 #[.val (.ref (n0 + ob0)), .val (.int i1)] [(.int (0 : Int32)), (.ref (n0 + ob0))])) rfl (hb hby d1_20) rfl (by decide) (by show _ + 1 ≤ 8; omega) (by show _ + 0 ≤ 4; omega)
  rw [ha6] at st6
  obtain ⟨D7, hq7, hf⟩ := own_bind hf
  obtain ⟨T7, h7, L7, X7, e7, O7, N7, st7⟩ := putW X6 hx hZ hown (hw _ (List.mem_of_getElem? (i := 15) rfl)) (lay1 hw) e6 O6 N5 hq7 rfl rfl (Or.inl (hw _ (List.mem_of_getElem? (i := 16) rfl))) (hw _ (List.mem_of_getElem? (i := 2) rfl)) (ty := (.array .int)) (by decide) rfl rfl (g := (mkF m 22 #[.val (.ref (n0 + ob0)), .val (.int i1)] [(.ref (n0 + a6)), (.ref (n0 + ob0))])) rfl rfl (hb hby d1_22)
  obtain ⟨a8, ha8, hf⟩ := own_letE hf
  obtain ⟨D8, hD8, hf⟩ := own_bind hf
  obtain ⟨T8, h8, X8, e8, O8, st8⟩ := newAW X7 hx hZ (aty := .int) (hw _ (List.mem_of_getElem? (i := 10) rfl)) e7 O7 rfl rfl hD8 (g := (mkF m 27 #[.val (.ref (n0 + ob0)), .val (.int i1)] [(.int (0 : Int32)), (.ref (n0 + ob0))])) rfl (hb hby d1_27) rfl (by decide) (by show _ + 1 ≤ 8; omega) (by show _ + 0 ≤ 4; omega)
  rw [ha8] at st8
  obtain ⟨D9, hq9, hf⟩ := own_bind hf
  obtain ⟨T9, h9, L9, X9, e9, O9, N9, st9⟩ := putW X8 hx hZ hown (hw _ (List.mem_of_getElem? (i := 17) rfl)) (lay1 hw) e8 O8 N7 hq9 rfl rfl (Or.inl (hw _ (List.mem_of_getElem? (i := 18) rfl))) (hw _ (List.mem_of_getElem? (i := 2) rfl)) (ty := (.array .int)) (by decide) rfl rfl (g := (mkF m 29 #[.val (.ref (n0 + ob0)), .val (.int i1)] [(.ref (n0 + a8)), (.ref (n0 + ob0))])) rfl rfl (hb hby d1_29)
  obtain ⟨a10, ha10, hf⟩ := own_letE hf
  obtain ⟨D10, hD10, hf⟩ := own_bind hf
  obtain ⟨T10, h10, X10, e10, O10, st10⟩ := newAW X9 hx hZ (aty := .int) (hw _ (List.mem_of_getElem? (i := 10) rfl)) e9 O9 rfl rfl hD10 (g := (mkF m 34 #[.val (.ref (n0 + ob0)), .val (.int i1)] [(.int (0 : Int32)), (.ref (n0 + ob0))])) rfl (hb hby d1_34) rfl (by decide) (by show _ + 1 ≤ 8; omega) (by show _ + 0 ≤ 4; omega)
  rw [ha10] at st10
  obtain ⟨D11, hq11, hf⟩ := own_bind hf
  obtain ⟨T11, h11, L11, X11, e11, O11, N11, st11⟩ := putW X10 hx hZ hown (hw _ (List.mem_of_getElem? (i := 19) rfl)) (lay1 hw) e10 O10 N9 hq11 rfl rfl (Or.inl (hw _ (List.mem_of_getElem? (i := 20) rfl))) (hw _ (List.mem_of_getElem? (i := 2) rfl)) (ty := (.array .int)) (by decide) rfl rfl (g := (mkF m 36 #[.val (.ref (n0 + ob0)), .val (.int i1)] [(.ref (n0 + a10)), (.ref (n0 + ob0))])) rfl rfl (hb hby d1_36)
  obtain ⟨a12, ha12, hf⟩ := own_letE hf
  obtain ⟨D12, hD12, hf⟩ := own_bind hf
  obtain ⟨T12, h12, X12, e12, O12, st12⟩ := newAW X11 hx hZ (aty := .int) (hw _ (List.mem_of_getElem? (i := 10) rfl)) e11 O11 rfl rfl hD12 (g := (mkF m 41 #[.val (.ref (n0 + ob0)), .val (.int i1)] [(.int (0 : Int32)), (.ref (n0 + ob0))])) rfl (hb hby d1_41) rfl (by decide) (by show _ + 1 ≤ 8; omega) (by show _ + 0 ≤ 4; omega)
  rw [ha12] at st12
  obtain ⟨D13, hq13, hf⟩ := own_bind hf
  obtain ⟨T13, h13, L13, X13, e13, O13, N13, st13⟩ := putW X12 hx hZ hown (hw _ (List.mem_of_getElem? (i := 21) rfl)) (lay1 hw) e12 O12 N11 hq13 rfl rfl (Or.inl (hw _ (List.mem_of_getElem? (i := 22) rfl))) (hw _ (List.mem_of_getElem? (i := 2) rfl)) (ty := (.array .int)) (by decide) rfl rfl (g := (mkF m 43 #[.val (.ref (n0 + ob0)), .val (.int i1)] [(.ref (n0 + a12)), (.ref (n0 + ob0))])) rfl rfl (hb hby d1_43)
  obtain ⟨a14, ha14, hf⟩ := own_letE hf
  obtain ⟨D14, hD14, hf⟩ := own_bind hf
  obtain ⟨T14, h14, X14, e14, O14, st14⟩ := newAW X13 hx hZ (aty := .int) (hw _ (List.mem_of_getElem? (i := 10) rfl)) e13 O13 rfl rfl hD14 (g := (mkF m 48 #[.val (.ref (n0 + ob0)), .val (.int i1)] [(.int (0 : Int32)), (.ref (n0 + ob0))])) rfl (hb hby d1_48) rfl (by decide) (by show _ + 1 ≤ 8; omega) (by show _ + 0 ≤ 4; omega)
  rw [ha14] at st14
  obtain ⟨D15, hq15, hf⟩ := own_bind hf
  obtain ⟨T15, h15, L15, X15, e15, O15, N15, st15⟩ := putW X14 hx hZ hown (hw _ (List.mem_of_getElem? (i := 23) rfl)) (lay1 hw) e14 O14 N13 hq15 rfl rfl (Or.inl (hw _ (List.mem_of_getElem? (i := 24) rfl))) (hw _ (List.mem_of_getElem? (i := 2) rfl)) (ty := (.array .int)) (by decide) rfl rfl (g := (mkF m 50 #[.val (.ref (n0 + ob0)), .val (.int i1)] [(.ref (n0 + a14)), (.ref (n0 + ob0))])) rfl rfl (hb hby d1_50)
  obtain ⟨D16, hq16, hf⟩ := own_bind hf
  obtain ⟨T16, h16, L16, X16, e16, O16, N16, st16⟩ := putW X15 hx hZ hown (hw _ (List.mem_of_getElem? (i := 25) rfl)) (lay1 hw) e15 O15 N15 hq16 rfl rfl (Or.inl (hw _ (List.mem_of_getElem? (i := 26) rfl))) (hw _ (List.mem_of_getElem? (i := 2) rfl)) (ty := .int) (by decide) rfl rfl (g := (mkF m 55 #[.val (.ref (n0 + ob0)), .val (.int i1)] [(.int (-1 : Int32)), (.ref (n0 + ob0))])) rfl rfl (hb hby d1_55)
  obtain ⟨D17, hq17, hf⟩ := own_bind hf
  obtain ⟨T17, h17, L17, X17, e17, O17, N17, st17⟩ := putW X16 hx hZ hown (hw _ (List.mem_of_getElem? (i := 27) rfl)) (lay1 hw) e16 O16 N16 hq17 rfl rfl (Or.inl (hw _ (List.mem_of_getElem? (i := 28) rfl))) (hw _ (List.mem_of_getElem? (i := 2) rfl)) (ty := .int) (by decide) rfl rfl (g := (mkF m 60 #[.val (.ref (n0 + ob0)), .val (.int i1)] [(.int (-1 : Int32)), (.ref (n0 + ob0))])) rfl rfl (hb hby d1_60)
  obtain ⟨D18, hq18, hf⟩ := own_bind hf
  obtain ⟨T18, h18, L18, X18, e18, O18, N18, st18⟩ := putW X17 hx hZ hown (hw _ (List.mem_of_getElem? (i := 29) rfl)) (lay1 hw) e17 O17 N17 hq18 rfl rfl (Or.inl (hw _ (List.mem_of_getElem? (i := 30) rfl))) (hw _ (List.mem_of_getElem? (i := 2) rfl)) (ty := .int) (by decide) rfl rfl (g := (mkF m 65 #[.val (.ref (n0 + ob0)), .val (.int i1)] [(.int (-1 : Int32)), (.ref (n0 + ob0))])) rfl rfl (hb hby d1_65)
  obtain ⟨D19, hq19, hf⟩ := own_bind hf
  obtain ⟨T19, h19, L19, X19, e19, O19, N19, st19⟩ := putW X18 hx hZ hown (hw _ (List.mem_of_getElem? (i := 31) rfl)) (lay1 hw) e18 O18 N18 hq19 rfl rfl (Or.inl (hw _ (List.mem_of_getElem? (i := 32) rfl))) (hw _ (List.mem_of_getElem? (i := 2) rfl)) (ty := .int) (by decide) rfl rfl (g := (mkF m 70 #[.val (.ref (n0 + ob0)), .val (.int i1)] [(.int (-1 : Int32)), (.ref (n0 + ob0))])) rfl rfl (hb hby d1_70)
  obtain ⟨D20, hq20, hf⟩ := own_bind hf
  obtain ⟨T20, h20, L20, X20, e20, O20, N20, st20⟩ := putW X19 hx hZ hown (hw _ (List.mem_of_getElem? (i := 34) rfl)) (lay1 hw) e19 O19 N19 hq20 rfl rfl (Or.inl (hw _ (List.mem_of_getElem? (i := 35) rfl))) (hw _ (List.mem_of_getElem? (i := 2) rfl)) (ty := .int) (by decide) rfl rfl (g := (mkF m 76 #[.val (.ref (n0 + ob0)), .val (.int i1)] [(.int (625341585 : Int32)), (.ref (n0 + ob0))])) rfl rfl (hb hby d1_76)
  obtain ⟨a21, ha21, hf⟩ := own_letE hf
  obtain ⟨D21, hD21, hf⟩ := own_bind hf
  obtain ⟨T21, h21, X21, e21, O21, st21⟩ := newAW X20 hx hZ (aty := .int) (hw _ (List.mem_of_getElem? (i := 10) rfl)) e20 O20 rfl rfl hD21 (g := (mkF m 81 #[.val (.ref (n0 + ob0)), .val (.int i1)] [(.int i1), (.ref (n0 + ob0))])) rfl (hb hby d1_81) rfl (by decide) (by show _ + 1 ≤ 8; omega) (by show _ + 4 ≤ 4; omega)
  rw [ha21] at st21
  obtain ⟨D22, hq22, hf⟩ := own_bind hf
  obtain ⟨T22, h22, L22, X22, e22, O22, N22, st22⟩ := putW X21 hx hZ hown (hw _ (List.mem_of_getElem? (i := 36) rfl)) (lay1 hw) e21 O21 N20 hq22 rfl rfl (Or.inr ⟨(hw _ (List.mem_of_getElem? (i := 37) rfl)), rfl, hnm⟩) (hw _ (List.mem_of_getElem? (i := 2) rfl)) (ty := (.array .int)) (by decide) rfl rfl (g := (mkF m 83 #[.val (.ref (n0 + ob0)), .val (.int i1)] [(.ref (n0 + a21)), (.ref (n0 + ob0))])) rfl rfl (hb hby d1_83)
  obtain ⟨x23, hx23, hf⟩ := own_bind hf
  obtain ⟨T24, X24, e24, st24⟩ := getF X22 hx hZ hown (host := "") (Or.inl (hw _ (List.mem_of_getElem? (i := 36) rfl))) Via.refl e22 (O22.fld (gR_e hx23) rfl rfl) (g := (mkF m 87 #[.val (.ref (n0 + ob0)), .val (.int i1)] [(.ref (n0 + ob0))])) rfl rfl (hb hby d1_87)
  obtain ⟨D25, hq25, hf⟩ := own_bind hf
  obtain ⟨T25, h25, L25, X25, e25, O25, N25, st25⟩ := callSW X24 hx hZ (y := (⟨"java/util/Arrays", "fill", "([II)V"⟩ : MethodName)) hown (hw _ (List.mem_of_getElem? (i := 38) rfl)) (hw _ (List.mem_of_getElem? (i := 39) rfl)) (hw _ (List.mem_of_getElem? (i := 40) rfl)) (hw _ (List.mem_of_getElem? (i := 41) rfl)) (by decide) e24 O22 N22 (as' := [(.ref (n0 + x23)), (.int (-1 : Int32))]) (ct3 hw hq25) (W := 0) (kc := 0) (ks := 0) rfl rfl (by decide) (by decide) (g := (mkF m 91 #[.val (.ref (n0 + ob0)), .val (.int i1)] [(.int (-1 : Int32)), (.ref (n0 + x23))])) rfl (by rw [hml]; rfl) (rest := []) (lenOf pd_0 rfl) rfl (by show 2 * 0 + _ ≤ _; exact Nat.le_of_eq rfl) (hb hby d1_91) (by show _ + 0 ≤ 8; omega) (by show _ + 0 ≤ 4; omega)
  refine Gl.on (B := T25.setTop (mkF m 94 #[.val (.ref (n0 + ob0)), .val (.int i1)] [])) (fun t k => ?_) ?_
  · show Steps p.tables e below (T0.setTop (mkF m 0 #[.val (.ref (n0 + ob0)), .val (.int i1)] [])) _
    refine XS.aloadN X0.here hx rfl (hb hby d1_0) rfl rfl ?_
    show Steps p.tables e below (T0.setTop (mkF m 1 #[.val (.ref (n0 + ob0)), .val (.int i1)] [(.ref (n0 + ob0))])) _
    refine st1 _ ?_
    show Steps p.tables e below (T1.setTop (mkF m 4 #[.val (.ref (n0 + ob0)), .val (.int i1)] [])) _
    refine XS.aloadN X1.here hx rfl (hb hby d1_4) rfl rfl ?_
    show Steps p.tables e below (T1.setTop (mkF m 5 #[.val (.ref (n0 + ob0)), .val (.int i1)] [(.ref (n0 + ob0))])) _
    refine XS.iconst X1.here hx rfl (hb hby d1_5) ?_
    show Steps p.tables e below (T1.setTop (mkF m 6 #[.val (.ref (n0 + ob0)), .val (.int i1)] [(.int (0 : Int32)), (.ref (n0 + ob0))])) _
    refine st2 _ ?_
    show Steps p.tables e below (T2.setTop (mkF m 8 #[.val (.ref (n0 + ob0)), .val (.int i1)] [(.ref (n0 + a2)), (.ref (n0 + ob0))])) _
    refine st3 _ ?_
    show Steps p.tables e below (T3.setTop (mkF m 11 #[.val (.ref (n0 + ob0)), .val (.int i1)] [])) _
    refine XS.aloadN X3.here hx rfl (hb hby d1_11) rfl rfl ?_
    show Steps p.tables e below (T3.setTop (mkF m 12 #[.val (.ref (n0 + ob0)), .val (.int i1)] [(.ref (n0 + ob0))])) _
    refine XS.iconst X3.here hx rfl (hb hby d1_12) ?_
    show Steps p.tables e below (T3.setTop (mkF m 13 #[.val (.ref (n0 + ob0)), .val (.int i1)] [(.int (0 : Int32)), (.ref (n0 + ob0))])) _
    refine st4 _ ?_
    show Steps p.tables e below (T4.setTop (mkF m 15 #[.val (.ref (n0 + ob0)), .val (.int i1)] [(.ref (n0 + a4)), (.ref (n0 + ob0))])) _
    refine st5 _ ?_
    show Steps p.tables e below (T5.setTop (mkF m 18 #[.val (.ref (n0 + ob0)), .val (.int i1)] [])) _
    refine XS.aloadN X5.here hx rfl (hb hby d1_18) rfl rfl ?_
    show Steps p.tables e below (T5.setTop (mkF m 19 #[.val (.ref (n0 + ob0)), .val (.int i1)] [(.ref (n0 + ob0))])) _
    refine XS.iconst X5.here hx rfl (hb hby d1_19) ?_
    show Steps p.tables e below (T5.setTop (mkF m 20 #[.val (.ref (n0 + ob0)), .val (.int i1)] [(.int (0 : Int32)), (.ref (n0 + ob0))])) _
    refine st6 _ ?_
    show Steps p.tables e below (T6.setTop (mkF m 22 #[.val (.ref (n0 + ob0)), .val (.int i1)] [(.ref (n0 + a6)), (.ref (n0 + ob0))])) _
    refine st7 _ ?_
    show Steps p.tables e below (T7.setTop (mkF m 25 #[.val (.ref (n0 + ob0)), .val (.int i1)] [])) _
    refine XS.aloadN X7.here hx rfl (hb hby d1_25) rfl rfl ?_
    show Steps p.tables e below (T7.setTop (mkF m 26 #[.val (.ref (n0 + ob0)), .val (.int i1)] [(.ref (n0 + ob0))])) _
    refine XS.iconst X7.here hx rfl (hb hby d1_26) ?_
    show Steps p.tables e below (T7.setTop (mkF m 27 #[.val (.ref (n0 + ob0)), .val (.int i1)] [(.int (0 : Int32)), (.ref (n0 + ob0))])) _
    refine st8 _ ?_
    show Steps p.tables e below (T8.setTop (mkF m 29 #[.val (.ref (n0 + ob0)), .val (.int i1)] [(.ref (n0 + a8)), (.ref (n0 + ob0))])) _
    refine st9 _ ?_
    show Steps p.tables e below (T9.setTop (mkF m 32 #[.val (.ref (n0 + ob0)), .val (.int i1)] [])) _
    refine XS.aloadN X9.here hx rfl (hb hby d1_32) rfl rfl ?_
    show Steps p.tables e below (T9.setTop (mkF m 33 #[.val (.ref (n0 + ob0)), .val (.int i1)] [(.ref (n0 + ob0))])) _
    refine XS.iconst X9.here hx rfl (hb hby d1_33) ?_
    show Steps p.tables e below (T9.setTop (mkF m 34 #[.val (.ref (n0 + ob0)), .val (.int i1)] [(.int (0 : Int32)), (.ref (n0 + ob0))])) _
    refine st10 _ ?_
    show Steps p.tables e below (T10.setTop (mkF m 36 #[.val (.ref (n0 + ob0)), .val (.int i1)] [(.ref (n0 + a10)), (.ref (n0 + ob0))])) _
    refine st11 _ ?_
    show Steps p.tables e below (T11.setTop (mkF m 39 #[.val (.ref (n0 + ob0)), .val (.int i1)] [])) _
    refine XS.aloadN X11.here hx rfl (hb hby d1_39) rfl rfl ?_
    show Steps p.tables e below (T11.setTop (mkF m 40 #[.val (.ref (n0 + ob0)), .val (.int i1)] [(.ref (n0 + ob0))])) _
    refine XS.iconst X11.here hx rfl (hb hby d1_40) ?_
    show Steps p.tables e below (T11.setTop (mkF m 41 #[.val (.ref (n0 + ob0)), .val (.int i1)] [(.int (0 : Int32)), (.ref (n0 + ob0))])) _
    refine st12 _ ?_
    show Steps p.tables e below (T12.setTop (mkF m 43 #[.val (.ref (n0 + ob0)), .val (.int i1)] [(.ref (n0 + a12)), (.ref (n0 + ob0))])) _
    refine st13 _ ?_
    show Steps p.tables e below (T13.setTop (mkF m 46 #[.val (.ref (n0 + ob0)), .val (.int i1)] [])) _
    refine XS.aloadN X13.here hx rfl (hb hby d1_46) rfl rfl ?_
    show Steps p.tables e below (T13.setTop (mkF m 47 #[.val (.ref (n0 + ob0)), .val (.int i1)] [(.ref (n0 + ob0))])) _
    refine XS.iconst X13.here hx rfl (hb hby d1_47) ?_
    show Steps p.tables e below (T13.setTop (mkF m 48 #[.val (.ref (n0 + ob0)), .val (.int i1)] [(.int (0 : Int32)), (.ref (n0 + ob0))])) _
    refine st14 _ ?_
    show Steps p.tables e below (T14.setTop (mkF m 50 #[.val (.ref (n0 + ob0)), .val (.int i1)] [(.ref (n0 + a14)), (.ref (n0 + ob0))])) _
    refine st15 _ ?_
    show Steps p.tables e below (T15.setTop (mkF m 53 #[.val (.ref (n0 + ob0)), .val (.int i1)] [])) _
    refine XS.aloadN X15.here hx rfl (hb hby d1_53) rfl rfl ?_
    show Steps p.tables e below (T15.setTop (mkF m 54 #[.val (.ref (n0 + ob0)), .val (.int i1)] [(.ref (n0 + ob0))])) _
    refine XS.iconst X15.here hx rfl (hb hby d1_54) ?_
    show Steps p.tables e below (T15.setTop (mkF m 55 #[.val (.ref (n0 + ob0)), .val (.int i1)] [(.int (-1 : Int32)), (.ref (n0 + ob0))])) _
    refine st16 _ ?_
    show Steps p.tables e below (T16.setTop (mkF m 58 #[.val (.ref (n0 + ob0)), .val (.int i1)] [])) _
    refine XS.aloadN X16.here hx rfl (hb hby d1_58) rfl rfl ?_
    show Steps p.tables e below (T16.setTop (mkF m 59 #[.val (.ref (n0 + ob0)), .val (.int i1)] [(.ref (n0 + ob0))])) _
    refine XS.iconst X16.here hx rfl (hb hby d1_59) ?_
    show Steps p.tables e below (T16.setTop (mkF m 60 #[.val (.ref (n0 + ob0)), .val (.int i1)] [(.int (-1 : Int32)), (.ref (n0 + ob0))])) _
    refine st17 _ ?_
    show Steps p.tables e below (T17.setTop (mkF m 63 #[.val (.ref (n0 + ob0)), .val (.int i1)] [])) _
    refine XS.aloadN X17.here hx rfl (hb hby d1_63) rfl rfl ?_
    show Steps p.tables e below (T17.setTop (mkF m 64 #[.val (.ref (n0 + ob0)), .val (.int i1)] [(.ref (n0 + ob0))])) _
    refine XS.iconst X17.here hx rfl (hb hby d1_64) ?_
    show Steps p.tables e below (T17.setTop (mkF m 65 #[.val (.ref (n0 + ob0)), .val (.int i1)] [(.int (-1 : Int32)), (.ref (n0 + ob0))])) _
    refine st18 _ ?_
    show Steps p.tables e below (T18.setTop (mkF m 68 #[.val (.ref (n0 + ob0)), .val (.int i1)] [])) _
    refine XS.aloadN X18.here hx rfl (hb hby d1_68) rfl rfl ?_
    show Steps p.tables e below (T18.setTop (mkF m 69 #[.val (.ref (n0 + ob0)), .val (.int i1)] [(.ref (n0 + ob0))])) _
    refine XS.iconst X18.here hx rfl (hb hby d1_69) ?_
    show Steps p.tables e below (T18.setTop (mkF m 70 #[.val (.ref (n0 + ob0)), .val (.int i1)] [(.int (-1 : Int32)), (.ref (n0 + ob0))])) _
    refine st19 _ ?_
    show Steps p.tables e below (T19.setTop (mkF m 73 #[.val (.ref (n0 + ob0)), .val (.int i1)] [])) _
    refine XS.aloadN X19.here hx rfl (hb hby d1_73) rfl rfl ?_
    show Steps p.tables e below (T19.setTop (mkF m 74 #[.val (.ref (n0 + ob0)), .val (.int i1)] [(.ref (n0 + ob0))])) _
    refine X19.ldcInt hx hown (mvT hZ (hw _ (List.mem_of_getElem? (i := 33) rfl))) (g := (mkF m 74 #[.val (.ref (n0 + ob0)), .val (.int i1)] [(.ref (n0 + ob0))])) rfl (hb hby d1_74) _ ?_
    show Steps p.tables e below (T19.setTop (mkF m 76 #[.val (.ref (n0 + ob0)), .val (.int i1)] [(.int (625341585 : Int32)), (.ref (n0 + ob0))])) _
    refine st20 _ ?_
    show Steps p.tables e below (T20.setTop (mkF m 79 #[.val (.ref (n0 + ob0)), .val (.int i1)] [])) _
    refine XS.aloadN X20.here hx rfl (hb hby d1_79) rfl rfl ?_
    show Steps p.tables e below (T20.setTop (mkF m 80 #[.val (.ref (n0 + ob0)), .val (.int i1)] [(.ref (n0 + ob0))])) _
    refine XS.iloadN X20.here hx rfl (hb hby d1_80) rfl ?_
    show Steps p.tables e below (T20.setTop (mkF m 81 #[.val (.ref (n0 + ob0)), .val (.int i1)] [(.int i1), (.ref (n0 + ob0))])) _
    refine st21 _ ?_
    show Steps p.tables e below (T21.setTop (mkF m 83 #[.val (.ref (n0 + ob0)), .val (.int i1)] [(.ref (n0 + a21)), (.ref (n0 + ob0))])) _
    refine st22 _ ?_
    show Steps p.tables e below (T22.setTop (mkF m 86 #[.val (.ref (n0 + ob0)), .val (.int i1)] [])) _
    refine XS.aloadN X22.here hx rfl (hb hby d1_86) rfl rfl ?_
    show Steps p.tables e below (T22.setTop (mkF m 87 #[.val (.ref (n0 + ob0)), .val (.int i1)] [(.ref (n0 + ob0))])) _
    refine st24 _ ?_
    show Steps p.tables e below (T24.setTop (mkF m 90 #[.val (.ref (n0 + ob0)), .val (.int i1)] [(.ref (n0 + x23))])) _
    refine XS.iconst X24.here hx rfl (hb hby d1_90) ?_
    show Steps p.tables e below (T24.setTop (mkF m 91 #[.val (.ref (n0 + ob0)), .val (.int i1)] [(.int (-1 : Int32)), (.ref (n0 + x23))])) _
    refine st25 _ ?_
    exact k
  obtain rfl := own_inj1 hf
  exact Gl.outV X25 hx hlk hret (hb hby d1_94) ⟨rfl, N25, by rw [e25]; exact O25⟩ (by show _ ≤ 8; omega) (by show _ ≤ 4; omega)
theorem d7_0 : decode jdk_29_method_65_code 0 = .ok (.iload_n 0, 1) := by decide +kernel
theorem d7_1 : decode jdk_29_method_65_code 1 = .ok (.iload_n 1, 1) := by decide +kernel
theorem d7_2 : decode jdk_29_method_65_code 2 = .ok (.if_icmp .lt 7, 3) := by decide +kernel
theorem d7_5 : decode jdk_29_method_65_code 5 = .ok (.iload_n 0, 1) := by decide +kernel
theorem d7_6 : decode jdk_29_method_65_code 6 = .ok (.goto 4, 3) := by decide +kernel
theorem d7_9 : decode jdk_29_method_65_code 9 = .ok (.iload_n 1, 1) := by decide +kernel
theorem d7_10 : decode jdk_29_method_65_code 10 = .ok (.ireturn, 1) := by decide +kernel
def f7 (D : Hp) (i0 : Int32) (i1 : Int32) : Option (Int32 × Hp) :=
  if i0 < i1 then (some (i1, D)) else (some (i0, D))
theorem ef_7 (m : MethodId) (i0 : Int32) (i1 : Int32) : entryFrame m #[(.int i0), (.int i1)] 2 = mkF m 0 #[.val (.int i0), .val (.int i1)] [] := by first | (simp [entryFrame, mkF, argsToLocals, Value.category]; done) | rfl
set_option maxRecDepth 65536 in
set_option maxHeartbeats 40000000 in
theorem ct7 {l : Launch} {Z : State} {a0 : Array Value} (hw : ∀ d ∈ tables_1, d.before a0 Z = true) {n0 : Nat} {D D' : Hp} {i0 : Int32} {i1 : Int32} {r : Int32} (hf : f7 D i0 i1 = some (r, D')) :
    Ct Kt1 l Z (⟨"java/lang/Math", "max", "(II)I"⟩ : MethodName) (.code (⟨"java/lang/Math", "max", "(II)I"⟩ : MethodName) jdk_29_method_65_code 2 (some .int)) ({ frames := 0, cells := 0, slots := 0, locals := 0 } : Room) n0 D #[(.int i0), (.int i1)] (some (.int r)) D' := by
  refine Ct.of (Jvm.Free.JP.mathPlain rfl (by decide +kernel)) ?_
  intro p e s m below meth c T0 h0 hC X0 e0 O0
  obtain ⟨hx, hZ, hby, hml, hown, hnm, hret, hlk⟩ := id hC
  have hml : c.maxLocals = 2 := hml
  have hown : s.vm.findClass "java/lang/Math" = some m.cls := hown
  have hnm : meth.name = "max" := hnm
  have N0 := Fr.nil n0
  refine Gl.on (fun t k => castTop (ef_7 m i0 i1) k) ?_
  rw [f7] at hf
  refine Gl.on (B := T0.setTop (mkF m 2 #[.val (.int i0), .val (.int i1)] [(.int i1), (.int i0)])) (fun t k => ?_) ?_
  · show Steps p.tables e below (T0.setTop (mkF m 0 #[.val (.int i0), .val (.int i1)] [])) _
    refine XS.iloadN X0.here hx rfl (hb hby d7_0) rfl ?_
    show Steps p.tables e below (T0.setTop (mkF m 1 #[.val (.int i0), .val (.int i1)] [(.int i0)])) _
    refine XS.iloadN X0.here hx rfl (hb hby d7_1) rfl ?_
    exact k
  by_cases hc1 : i0 < i1
  · rw [if_pos hc1] at hf
    refine Gl.on (B := T0.setTop (mkF m 10 #[.val (.int i0), .val (.int i1)] [(.int i1)])) (fun t k => ?_) ?_
    · show Steps p.tables e below (T0.setTop (mkF m 2 #[.val (.int i0), .val (.int i1)] [(.int i1), (.int i0)])) _
      refine XS.icmpYes X0.here hx rfl (pc0 := 2) (pc' := 9) rfl (hb hby d7_2) rfl (tlt hc1).1 (by decide) (by decide) ?_
      show Steps p.tables e below (T0.setTop (mkF m 9 #[.val (.int i0), .val (.int i1)] [])) _
      refine XS.iloadN X0.here hx rfl (hb hby d7_9) rfl ?_
      exact k
    obtain ⟨rfl, rfl⟩ := own_inj hf
    exact Gl.outI X0 hx hlk hret (hb hby d7_10) ⟨rfl, N0, by rw [e0]; exact O0⟩ (by show _ ≤ 0; omega) (by show _ ≤ 0; omega)
  · rw [if_neg hc1] at hf
    refine Gl.on (B := T0.setTop (mkF m 10 #[.val (.int i0), .val (.int i1)] [(.int i0)])) (fun t k => ?_) ?_
    · show Steps p.tables e below (T0.setTop (mkF m 2 #[.val (.int i0), .val (.int i1)] [(.int i1), (.int i0)])) _
      refine XS.icmpNo X0.here hx rfl (hb hby d7_2) rfl (flt hc1).1 ?_
      show Steps p.tables e below (T0.setTop (mkF m 5 #[.val (.int i0), .val (.int i1)] [])) _
      refine XS.iloadN X0.here hx rfl (hb hby d7_5) rfl ?_
      show Steps p.tables e below (T0.setTop (mkF m 6 #[.val (.int i0), .val (.int i1)] [(.int i0)])) _
      refine XS.goto X0.here hx rfl (pc0 := 6) (pc' := 10) rfl (hb hby d7_6) (by decide) (by decide) ?_
      exact k
    obtain ⟨rfl, rfl⟩ := own_inj hf
    exact Gl.outI X0 hx hlk hret (hb hby d7_10) ⟨rfl, N0, by rw [e0]; exact O0⟩ (by show _ ≤ 0; omega) (by show _ ≤ 0; omega)
theorem d9_0 : decode jdk_29_method_69_code 0 = .ok (.iload_n 0, 1) := by decide +kernel
theorem d9_1 : decode jdk_29_method_69_code 1 = .ok (.iload_n 1, 1) := by decide +kernel
theorem d9_2 : decode jdk_29_method_69_code 2 = .ok (.if_icmp .gt 7, 3) := by decide +kernel
theorem d9_5 : decode jdk_29_method_69_code 5 = .ok (.iload_n 0, 1) := by decide +kernel
theorem d9_6 : decode jdk_29_method_69_code 6 = .ok (.goto 4, 3) := by decide +kernel
theorem d9_9 : decode jdk_29_method_69_code 9 = .ok (.iload_n 1, 1) := by decide +kernel
theorem d9_10 : decode jdk_29_method_69_code 10 = .ok (.ireturn, 1) := by decide +kernel
def f9 (D : Hp) (i0 : Int32) (i1 : Int32) : Option (Int32 × Hp) :=
  if i1 < i0 then (some (i1, D)) else (some (i0, D))
theorem ef_9 (m : MethodId) (i0 : Int32) (i1 : Int32) : entryFrame m #[(.int i0), (.int i1)] 2 = mkF m 0 #[.val (.int i0), .val (.int i1)] [] := by first | (simp [entryFrame, mkF, argsToLocals, Value.category]; done) | rfl
set_option maxRecDepth 65536 in
set_option maxHeartbeats 40000000 in
theorem ct9 {l : Launch} {Z : State} {a0 : Array Value} (hw : ∀ d ∈ tables_1, d.before a0 Z = true) {n0 : Nat} {D D' : Hp} {i0 : Int32} {i1 : Int32} {r : Int32} (hf : f9 D i0 i1 = some (r, D')) :
    Ct Kt1 l Z (⟨"java/lang/Math", "min", "(II)I"⟩ : MethodName) (.code (⟨"java/lang/Math", "min", "(II)I"⟩ : MethodName) jdk_29_method_69_code 2 (some .int)) ({ frames := 0, cells := 0, slots := 0, locals := 0 } : Room) n0 D #[(.int i0), (.int i1)] (some (.int r)) D' := by
  refine Ct.of (Jvm.Free.JP.mathPlain rfl (by decide +kernel)) ?_
  intro p e s m below meth c T0 h0 hC X0 e0 O0
  obtain ⟨hx, hZ, hby, hml, hown, hnm, hret, hlk⟩ := id hC
  have hml : c.maxLocals = 2 := hml
  have hown : s.vm.findClass "java/lang/Math" = some m.cls := hown
  have hnm : meth.name = "min" := hnm
  have N0 := Fr.nil n0
  refine Gl.on (fun t k => castTop (ef_9 m i0 i1) k) ?_
  rw [f9] at hf
  refine Gl.on (B := T0.setTop (mkF m 2 #[.val (.int i0), .val (.int i1)] [(.int i1), (.int i0)])) (fun t k => ?_) ?_
  · show Steps p.tables e below (T0.setTop (mkF m 0 #[.val (.int i0), .val (.int i1)] [])) _
    refine XS.iloadN X0.here hx rfl (hb hby d9_0) rfl ?_
    show Steps p.tables e below (T0.setTop (mkF m 1 #[.val (.int i0), .val (.int i1)] [(.int i0)])) _
    refine XS.iloadN X0.here hx rfl (hb hby d9_1) rfl ?_
    exact k
  by_cases hc1 : i1 < i0
  · rw [if_pos hc1] at hf
    refine Gl.on (B := T0.setTop (mkF m 10 #[.val (.int i0), .val (.int i1)] [(.int i1)])) (fun t k => ?_) ?_
    · show Steps p.tables e below (T0.setTop (mkF m 2 #[.val (.int i0), .val (.int i1)] [(.int i1), (.int i0)])) _
      refine XS.icmpYes X0.here hx rfl (pc0 := 2) (pc' := 9) rfl (hb hby d9_2) rfl (tlt hc1).2.2.1 (by decide) (by decide) ?_
      show Steps p.tables e below (T0.setTop (mkF m 9 #[.val (.int i0), .val (.int i1)] [])) _
      refine XS.iloadN X0.here hx rfl (hb hby d9_9) rfl ?_
      exact k
    obtain ⟨rfl, rfl⟩ := own_inj hf
    exact Gl.outI X0 hx hlk hret (hb hby d9_10) ⟨rfl, N0, by rw [e0]; exact O0⟩ (by show _ ≤ 0; omega) (by show _ ≤ 0; omega)
  · rw [if_neg hc1] at hf
    refine Gl.on (B := T0.setTop (mkF m 10 #[.val (.int i0), .val (.int i1)] [(.int i0)])) (fun t k => ?_) ?_
    · show Steps p.tables e below (T0.setTop (mkF m 2 #[.val (.int i0), .val (.int i1)] [(.int i1), (.int i0)])) _
      refine XS.icmpNo X0.here hx rfl (hb hby d9_2) rfl (flt hc1).2.2.1 ?_
      show Steps p.tables e below (T0.setTop (mkF m 5 #[.val (.int i0), .val (.int i1)] [])) _
      refine XS.iloadN X0.here hx rfl (hb hby d9_5) rfl ?_
      show Steps p.tables e below (T0.setTop (mkF m 6 #[.val (.int i0), .val (.int i1)] [(.int i0)])) _
      refine XS.goto X0.here hx rfl (pc0 := 6) (pc' := 10) rfl (hb hby d9_6) (by decide) (by decide) ?_
      exact k
    obtain ⟨rfl, rfl⟩ := own_inj hf
    exact Gl.outI X0 hx hlk hret (hb hby d9_10) ⟨rfl, N0, by rw [e0]; exact O0⟩ (by show _ ≤ 0; omega) (by show _ ≤ 0; omega)
theorem pd_1 : parseMethodDescriptor "(II)I" = some ⟨[.int, .int], some .int⟩ := by decide +kernel
theorem d8_0 : decode jdk_65_method_123_code 0 = .ok (.iload_n 1, 1) := by decide +kernel
theorem d8_1 : decode jdk_65_method_123_code 1 = .ok (.aload_n 0, 1) := by decide +kernel
theorem d8_2 : decode jdk_65_method_123_code 2 = .ok (.arraylength, 1) := by decide +kernel
theorem d8_3 : decode jdk_65_method_123_code 3 = .ok (.if_icmp .ne 11, 3) := by decide +kernel
theorem d8_6 : decode jdk_65_method_123_code 6 = .ok (.aload_n 0, 1) := by decide +kernel
theorem d8_14 : decode jdk_65_method_123_code 14 = .ok (.iload_n 1, 1) := by decide +kernel
theorem d8_15 : decode jdk_65_method_123_code 15 = .ok (.newarray .int, 2) := by decide +kernel
theorem d8_17 : decode jdk_65_method_123_code 17 = .ok (.astore_n 2, 1) := by decide +kernel
theorem d8_18 : decode jdk_65_method_123_code 18 = .ok (.aload_n 0, 1) := by decide +kernel
theorem d8_19 : decode jdk_65_method_123_code 19 = .ok (.iconst 0, 1) := by decide +kernel
theorem d8_20 : decode jdk_65_method_123_code 20 = .ok (.aload_n 2, 1) := by decide +kernel
theorem d8_21 : decode jdk_65_method_123_code 21 = .ok (.iconst 0, 1) := by decide +kernel
theorem d8_22 : decode jdk_65_method_123_code 22 = .ok (.aload_n 0, 1) := by decide +kernel
theorem d8_23 : decode jdk_65_method_123_code 23 = .ok (.arraylength, 1) := by decide +kernel
theorem d8_24 : decode jdk_65_method_123_code 24 = .ok (.iload_n 1, 1) := by decide +kernel
theorem d8_25 : decode jdk_65_method_123_code 25 = .ok (.invokestatic 304, 3) := by decide +kernel
theorem d8_28 : decode jdk_65_method_123_code 28 = .ok (.invokestatic 150, 3) := by decide +kernel
theorem d8_31 : decode jdk_65_method_123_code 31 = .ok (.aload_n 2, 1) := by decide +kernel
theorem d8_32 : decode jdk_65_method_123_code 32 = .ok (.areturn, 1) := by decide +kernel
theorem pn_8 : plainName "java/util/Arrays" = true := by first | (simp [plainName, overriddenIn]; done) | decide +kernel
def f8 (D : Hp) (ob0 : Nat) (i1 : Int32) : Option (Nat × Hp) :=
  (lA D ob0 0).bind fun x1 =>
  if i1 = x1 then (none) else (own_let (D.length) fun a3 => (nA D 0 i1 16 (.int (0 : Int32))).bind fun D3 =>
  (lA D3 ob0 0).bind fun x4 =>
  (f9 D3 x4 i1).bind fun q5 => own_let q5.1 fun x6 => own_let q5.2 fun D5 =>
  (cp0 D5 ob0 a3 0 x6).bind fun D7 =>
  some (a3, D7))
theorem ef_8 (m : MethodId) (n0 : Nat) (ob0 : Nat) (i1 : Int32) : entryFrame m #[(.ref (n0 + ob0)), (.int i1)] 3 = mkF m 0 #[.val (.ref (n0 + ob0)), .val (.int i1), .unset] [] := by first | (simp [entryFrame, mkF, argsToLocals, Value.category]; done) | rfl
set_option maxRecDepth 65536 in
set_option maxHeartbeats 40000000 in
theorem ct8 {l : Launch} {Z : State} {a0 : Array Value} (hw : ∀ d ∈ tables_1, d.before a0 Z = true) {n0 : Nat} {D D' : Hp} {ob0 : Nat} {i1 : Int32} {r : Nat} (hf : f8 D ob0 i1 = some (r, D')) :
    Ct Kt1 l Z (⟨"java/util/Arrays", "copyOf", "([II)[I"⟩ : MethodName) (.code (⟨"java/util/Arrays", "copyOf", "([II)[I"⟩ : MethodName) jdk_65_method_123_code 3 (some (.array .int))) ({ frames := 1, cells := 1, slots := 16, locals := 19 } : Room) n0 D #[(.ref (n0 + ob0)), (.int i1)] (some (.ref (n0 + r))) D' := by
  refine Ct.of (plainFor_of_name pn_8) ?_
  intro p e s m below meth c T0 h0 hC X0 e0 O0
  obtain ⟨hx, hZ, hby, hml, hown, hnm, hret, hlk⟩ := id hC
  have hml : c.maxLocals = 3 := hml
  have hown : s.vm.findClass "java/util/Arrays" = some m.cls := hown
  have hnm : meth.name = "copyOf" := hnm
  have N0 := Fr.nil n0
  refine Gl.on (fun t k => castTop (ef_8 m n0 ob0 i1) k) ?_
  rw [f8] at hf
  obtain ⟨x1, hx1, hf⟩ := own_bind hf
  refine Gl.on (B := T0.setTop (mkF m 3 #[.val (.ref (n0 + ob0)), .val (.int i1), .unset] [(.int x1), (.int i1)])) (fun t k => ?_) ?_
  · show Steps p.tables e below (T0.setTop (mkF m 0 #[.val (.ref (n0 + ob0)), .val (.int i1), .unset] [])) _
    refine XS.iloadN X0.here hx rfl (hb hby d8_0) rfl ?_
    show Steps p.tables e below (T0.setTop (mkF m 1 #[.val (.ref (n0 + ob0)), .val (.int i1), .unset] [(.int i1)])) _
    refine XS.aloadN X0.here hx rfl (hb hby d8_1) rfl rfl ?_
    show Steps p.tables e below (T0.setTop (mkF m 2 #[.val (.ref (n0 + ob0)), .val (.int i1), .unset] [(.ref (n0 + ob0)), (.int i1)])) _
    refine lenW' X0 hx hZ e0 O0 hx1 (ty := .int) rfl (g := (mkF m 2 #[.val (.ref (n0 + ob0)), .val (.int i1), .unset] [(.ref (n0 + ob0)), (.int i1)])) rfl rfl (hb hby d8_2) _ ?_
    exact k
  by_cases hc2 : i1 = x1
  · rw [if_pos hc2] at hf
    cases hf
  · rw [if_neg hc2] at hf
    obtain ⟨a3, ha3, hf⟩ := own_letE hf
    obtain ⟨D3, hD3, hf⟩ := own_bind hf
    obtain ⟨T3, h3, X3, e3, O3, st3⟩ := newAW X0 hx hZ (aty := .int) (hw _ (List.mem_of_getElem? (i := 10) rfl)) e0 O0 rfl rfl hD3 (g := (mkF m 15 #[.val (.ref (n0 + ob0)), .val (.int i1), .unset] [(.int i1)])) rfl (hb hby d8_15) rfl (by decide) (by show _ + 1 ≤ 1; omega) (by show _ + 16 ≤ 16; omega)
    rw [ha3] at st3
    obtain ⟨x4, hx4, hf⟩ := own_bind hf
    obtain ⟨⟨x6, D5⟩, hq5, hf⟩ := own_bind hf
    obtain ⟨_, rfl, hf⟩ := own_letE hf
    obtain ⟨_, rfl, hf⟩ := own_letE hf
    obtain ⟨T5, h5, L5, X5, e5, O5, N5, st5⟩ := callSW X3 hx hZ (y := (⟨"java/lang/Math", "min", "(II)I"⟩ : MethodName)) hown (hw _ (List.mem_of_getElem? (i := 64) rfl)) (hw _ (List.mem_of_getElem? (i := 65) rfl)) (hw _ (List.mem_of_getElem? (i := 59) rfl)) (hw _ (List.mem_of_getElem? (i := 66) rfl)) (by decide) e3 O3 N0 (as' := [(.int x4), (.int i1)]) (ct9 hw hq5) (W := 4) (kc := 0) (ks := 0) rfl rfl (by decide) (by decide) (g := (mkF m 25 #[.val (.ref (n0 + ob0)), .val (.int i1), .val (.ref (n0 + a3))] [(.int i1), (.int x4), (.int (0 : Int32)), (.ref (n0 + a3)), (.int (0 : Int32)), (.ref (n0 + ob0))])) rfl (by rw [hml]; rfl) (rest := [(.int (0 : Int32)), (.ref (n0 + a3)), (.int (0 : Int32)), (.ref (n0 + ob0))]) (lenOf pd_1 rfl) rfl (by show 2 * 0 + _ ≤ _; exact Nat.le_of_eq rfl) (hb hby d8_25) (by show _ + 0 ≤ 1; omega) (by show _ + 0 ≤ 16; omega)
    obtain ⟨D7, hq7, hf⟩ := own_bind hf
    obtain ⟨T7, h7, L7, X7, e7, O7, N7, st7⟩ := cpW X5 hx hZ hown (hw _ (List.mem_of_getElem? (i := 67) rfl)) (hw _ (List.mem_of_getElem? (i := 70) rfl)) (hw _ (List.mem_of_getElem? (i := 68) rfl)) (hw _ (List.mem_of_getElem? (i := 69) rfl)) e5 O5 N5 hq7 rfl (g := (mkF m 28 #[.val (.ref (n0 + ob0)), .val (.int i1), .val (.ref (n0 + a3))] [(.int x6), (.int (0 : Int32)), (.ref (n0 + a3)), (.int (0 : Int32)), (.ref (n0 + ob0))])) rfl (by rw [hml]; rfl) rfl (hb hby d8_28) (by decide) (W := 0) (by show 2 * 0 + _ ≤ _; exact Nat.le_of_eq rfl) (by decide)
    refine Gl.on (B := T7.setTop (mkF m 32 #[.val (.ref (n0 + ob0)), .val (.int i1), .val (.ref (n0 + a3))] [(.ref (n0 + a3))])) (fun t k => ?_) ?_
    · show Steps p.tables e below (T0.setTop (mkF m 3 #[.val (.ref (n0 + ob0)), .val (.int i1), .unset] [(.int x1), (.int i1)])) _
      refine XS.icmpYes X0.here hx rfl (pc0 := 3) (pc' := 14) rfl (hb hby d8_3) rfl (feq hc2).2 (by decide) (by decide) ?_
      show Steps p.tables e below (T0.setTop (mkF m 14 #[.val (.ref (n0 + ob0)), .val (.int i1), .unset] [])) _
      refine XS.iloadN X0.here hx rfl (hb hby d8_14) rfl ?_
      show Steps p.tables e below (T0.setTop (mkF m 15 #[.val (.ref (n0 + ob0)), .val (.int i1), .unset] [(.int i1)])) _
      refine st3 _ ?_
      show Steps p.tables e below (T3.setTop (mkF m 17 #[.val (.ref (n0 + ob0)), .val (.int i1), .unset] [(.ref (n0 + a3))])) _
      refine XS.astoreN X3.here hx rfl (hb hby d8_17) rfl rfl (l' := #[.val (.ref (n0 + ob0)), .val (.int i1), .val (.ref (n0 + a3))]) rfl ?_
      show Steps p.tables e below (T3.setTop (mkF m 18 #[.val (.ref (n0 + ob0)), .val (.int i1), .val (.ref (n0 + a3))] [])) _
      refine XS.aloadN X3.here hx rfl (hb hby d8_18) rfl rfl ?_
      show Steps p.tables e below (T3.setTop (mkF m 19 #[.val (.ref (n0 + ob0)), .val (.int i1), .val (.ref (n0 + a3))] [(.ref (n0 + ob0))])) _
      refine XS.iconst X3.here hx rfl (hb hby d8_19) ?_
      show Steps p.tables e below (T3.setTop (mkF m 20 #[.val (.ref (n0 + ob0)), .val (.int i1), .val (.ref (n0 + a3))] [(.int (0 : Int32)), (.ref (n0 + ob0))])) _
      refine XS.aloadN X3.here hx rfl (hb hby d8_20) rfl rfl ?_
      show Steps p.tables e below (T3.setTop (mkF m 21 #[.val (.ref (n0 + ob0)), .val (.int i1), .val (.ref (n0 + a3))] [(.ref (n0 + a3)), (.int (0 : Int32)), (.ref (n0 + ob0))])) _
      refine XS.iconst X3.here hx rfl (hb hby d8_21) ?_
      show Steps p.tables e below (T3.setTop (mkF m 22 #[.val (.ref (n0 + ob0)), .val (.int i1), .val (.ref (n0 + a3))] [(.int (0 : Int32)), (.ref (n0 + a3)), (.int (0 : Int32)), (.ref (n0 + ob0))])) _
      refine XS.aloadN X3.here hx rfl (hb hby d8_22) rfl rfl ?_
      show Steps p.tables e below (T3.setTop (mkF m 23 #[.val (.ref (n0 + ob0)), .val (.int i1), .val (.ref (n0 + a3))] [(.ref (n0 + ob0)), (.int (0 : Int32)), (.ref (n0 + a3)), (.int (0 : Int32)), (.ref (n0 + ob0))])) _
      refine lenW' X3 hx hZ e3 O3 hx4 (ty := .int) rfl (g := (mkF m 23 #[.val (.ref (n0 + ob0)), .val (.int i1), .val (.ref (n0 + a3))] [(.ref (n0 + ob0)), (.int (0 : Int32)), (.ref (n0 + a3)), (.int (0 : Int32)), (.ref (n0 + ob0))])) rfl rfl (hb hby d8_23) _ ?_
      show Steps p.tables e below (T3.setTop (mkF m 24 #[.val (.ref (n0 + ob0)), .val (.int i1), .val (.ref (n0 + a3))] [(.int x4), (.int (0 : Int32)), (.ref (n0 + a3)), (.int (0 : Int32)), (.ref (n0 + ob0))])) _
      refine XS.iloadN X3.here hx rfl (hb hby d8_24) rfl ?_
      show Steps p.tables e below (T3.setTop (mkF m 25 #[.val (.ref (n0 + ob0)), .val (.int i1), .val (.ref (n0 + a3))] [(.int i1), (.int x4), (.int (0 : Int32)), (.ref (n0 + a3)), (.int (0 : Int32)), (.ref (n0 + ob0))])) _
      refine st5 _ ?_
      show Steps p.tables e below (T5.setTop (mkF m 28 #[.val (.ref (n0 + ob0)), .val (.int i1), .val (.ref (n0 + a3))] [(.int x6), (.int (0 : Int32)), (.ref (n0 + a3)), (.int (0 : Int32)), (.ref (n0 + ob0))])) _
      refine st7 _ ?_
      show Steps p.tables e below (T7.setTop (mkF m 31 #[.val (.ref (n0 + ob0)), .val (.int i1), .val (.ref (n0 + a3))] [])) _
      refine XS.aloadN X7.here hx rfl (hb hby d8_31) rfl rfl ?_
      exact k
    obtain ⟨rfl, rfl⟩ := own_inj hf
    exact Gl.outR X7 hx hlk hret rfl (hb hby d8_32) ⟨rfl, N7, by rw [e7]; exact O7⟩ (by show _ ≤ 1; omega) (by show _ ≤ 16; omega)
theorem pd_2 : parseMethodDescriptor "([II)[I" = some ⟨[(.array .int), .int], some (.array .int)⟩ := by decide +kernel
theorem d6_0 : decode prog_99_method_12_code 0 = .ok (.bipush 16, 2) := by decide +kernel
theorem d6_2 : decode prog_99_method_12_code 2 = .ok (.iconst 2, 1) := by decide +kernel
theorem d6_3 : decode prog_99_method_12_code 3 = .ok (.aload_n 0, 1) := by decide +kernel
theorem d6_4 : decode prog_99_method_12_code 4 = .ok (.getfield 7, 3) := by decide +kernel
theorem d6_7 : decode prog_99_method_12_code 7 = .ok (.arraylength, 1) := by decide +kernel
theorem d6_8 : decode prog_99_method_12_code 8 = .ok (.imul, 1) := by decide +kernel
theorem d6_9 : decode prog_99_method_12_code 9 = .ok (.invokestatic 84, 3) := by decide +kernel
theorem d6_12 : decode prog_99_method_12_code 12 = .ok (.istore_n 1, 1) := by decide +kernel
theorem d6_13 : decode prog_99_method_12_code 13 = .ok (.aload_n 0, 1) := by decide +kernel
theorem d6_14 : decode prog_99_method_12_code 14 = .ok (.aload_n 0, 1) := by decide +kernel
theorem d6_15 : decode prog_99_method_12_code 15 = .ok (.getfield 7, 3) := by decide +kernel
theorem d6_18 : decode prog_99_method_12_code 18 = .ok (.iload_n 1, 1) := by decide +kernel
theorem d6_19 : decode prog_99_method_12_code 19 = .ok (.invokestatic 90, 3) := by decide +kernel
theorem d6_22 : decode prog_99_method_12_code 22 = .ok (.putfield 7, 3) := by decide +kernel
theorem d6_25 : decode prog_99_method_12_code 25 = .ok (.aload_n 0, 1) := by decide +kernel
theorem d6_26 : decode prog_99_method_12_code 26 = .ok (.aload_n 0, 1) := by decide +kernel
theorem d6_27 : decode prog_99_method_12_code 27 = .ok (.getfield 13, 3) := by decide +kernel
theorem d6_30 : decode prog_99_method_12_code 30 = .ok (.iload_n 1, 1) := by decide +kernel
theorem d6_31 : decode prog_99_method_12_code 31 = .ok (.invokestatic 90, 3) := by decide +kernel
theorem d6_34 : decode prog_99_method_12_code 34 = .ok (.putfield 13, 3) := by decide +kernel
theorem d6_37 : decode prog_99_method_12_code 37 = .ok (.aload_n 0, 1) := by decide +kernel
theorem d6_38 : decode prog_99_method_12_code 38 = .ok (.aload_n 0, 1) := by decide +kernel
theorem d6_39 : decode prog_99_method_12_code 39 = .ok (.getfield 16, 3) := by decide +kernel
theorem d6_42 : decode prog_99_method_12_code 42 = .ok (.iload_n 1, 1) := by decide +kernel
theorem d6_43 : decode prog_99_method_12_code 43 = .ok (.invokestatic 90, 3) := by decide +kernel
theorem d6_46 : decode prog_99_method_12_code 46 = .ok (.putfield 16, 3) := by decide +kernel
theorem d6_49 : decode prog_99_method_12_code 49 = .ok (.aload_n 0, 1) := by decide +kernel
theorem d6_50 : decode prog_99_method_12_code 50 = .ok (.aload_n 0, 1) := by decide +kernel
theorem d6_51 : decode prog_99_method_12_code 51 = .ok (.getfield 19, 3) := by decide +kernel
theorem d6_54 : decode prog_99_method_12_code 54 = .ok (.iload_n 1, 1) := by decide +kernel
theorem d6_55 : decode prog_99_method_12_code 55 = .ok (.invokestatic 90, 3) := by decide +kernel
theorem d6_58 : decode prog_99_method_12_code 58 = .ok (.putfield 19, 3) := by decide +kernel
theorem d6_61 : decode prog_99_method_12_code 61 = .ok (.aload_n 0, 1) := by decide +kernel
theorem d6_62 : decode prog_99_method_12_code 62 = .ok (.aload_n 0, 1) := by decide +kernel
theorem d6_63 : decode prog_99_method_12_code 63 = .ok (.getfield 22, 3) := by decide +kernel
theorem d6_66 : decode prog_99_method_12_code 66 = .ok (.iload_n 1, 1) := by decide +kernel
theorem d6_67 : decode prog_99_method_12_code 67 = .ok (.invokestatic 90, 3) := by decide +kernel
theorem d6_70 : decode prog_99_method_12_code 70 = .ok (.putfield 22, 3) := by decide +kernel
theorem d6_73 : decode prog_99_method_12_code 73 = .ok (.aload_n 0, 1) := by decide +kernel
theorem d6_74 : decode prog_99_method_12_code 74 = .ok (.aload_n 0, 1) := by decide +kernel
theorem d6_75 : decode prog_99_method_12_code 75 = .ok (.getfield 25, 3) := by decide +kernel
theorem d6_78 : decode prog_99_method_12_code 78 = .ok (.iload_n 1, 1) := by decide +kernel
theorem d6_79 : decode prog_99_method_12_code 79 = .ok (.invokestatic 90, 3) := by decide +kernel
theorem d6_82 : decode prog_99_method_12_code 82 = .ok (.putfield 25, 3) := by decide +kernel
theorem d6_85 : decode prog_99_method_12_code 85 = .ok (.aload_n 0, 1) := by decide +kernel
theorem d6_86 : decode prog_99_method_12_code 86 = .ok (.aload_n 0, 1) := by decide +kernel
theorem d6_87 : decode prog_99_method_12_code 87 = .ok (.getfield 28, 3) := by decide +kernel
theorem d6_90 : decode prog_99_method_12_code 90 = .ok (.iload_n 1, 1) := by decide +kernel
theorem d6_91 : decode prog_99_method_12_code 91 = .ok (.invokestatic 90, 3) := by decide +kernel
theorem d6_94 : decode prog_99_method_12_code 94 = .ok (.putfield 28, 3) := by decide +kernel
theorem d6_97 : decode prog_99_method_12_code 97 = .ok (.return_, 1) := by decide +kernel
theorem pn_6 : plainName "com/example/planar_drawing_kit/planardrawingkit/inspect/SweepLine" = true := by first | (simp [plainName, overriddenIn]; done) | decide +kernel
def f6 (D : Hp) (ob0 : Nat) : Option (Hp) :=
  (gR D ob0 1 0).bind fun x1 =>
  (lA D x1 0).bind fun x3 =>
  (f7 D (16 : Int32) ((2 : Int32) * x3)).bind fun q4 => own_let q4.1 fun x5 => own_let q4.2 fun D4 =>
  (gR D4 ob0 1 0).bind fun x6 =>
  (f8 D4 x6 x5).bind fun q8 => own_let q8.1 fun x9 => own_let q8.2 fun D8 =>
  (pV D8 ob0 1 0 (.ref x9)).bind fun D10 =>
  (gR D10 ob0 1 1).bind fun x11 =>
  (f8 D10 x11 x5).bind fun q13 => own_let q13.1 fun x14 => own_let q13.2 fun D13 =>
  (pV D13 ob0 1 1 (.ref x14)).bind fun D15 =>
  (gR D15 ob0 1 2).bind fun x16 =>
  (f8 D15 x16 x5).bind fun q18 => own_let q18.1 fun x19 => own_let q18.2 fun D18 =>
  (pV D18 ob0 1 2 (.ref x19)).bind fun D20 =>
  (gR D20 ob0 1 3).bind fun x21 =>
  (f8 D20 x21 x5).bind fun q23 => own_let q23.1 fun x24 => own_let q23.2 fun D23 =>
  (pV D23 ob0 1 3 (.ref x24)).bind fun D25 =>
  (gR D25 ob0 1 4).bind fun x26 =>
  (f8 D25 x26 x5).bind fun q28 => own_let q28.1 fun x29 => own_let q28.2 fun D28 =>
  (pV D28 ob0 1 4 (.ref x29)).bind fun D30 =>
  (gR D30 ob0 1 5).bind fun x31 =>
  (f8 D30 x31 x5).bind fun q33 => own_let q33.1 fun x34 => own_let q33.2 fun D33 =>
  (pV D33 ob0 1 5 (.ref x34)).bind fun D35 =>
  (gR D35 ob0 1 6).bind fun x36 =>
  (f8 D35 x36 x5).bind fun q38 => own_let q38.1 fun x39 => own_let q38.2 fun D38 =>
  (pV D38 ob0 1 6 (.ref x39)).bind fun D40 =>
  some D40
theorem ef_6 (m : MethodId) (n0 : Nat) (ob0 : Nat) : entryFrame m #[(.ref (n0 + ob0))] 2 = mkF m 0 #[.val (.ref (n0 + ob0)), .unset] [] := by first | (simp [entryFrame, mkF, argsToLocals, Value.category]; done) | rfl
set_option maxRecDepth 65536 in
set_option maxHeartbeats 40000000 in
theorem ct6 {l : Launch} {Z : State} {a0 : Array Value} (hw : ∀ d ∈ tables_1, d.before a0 Z = true) {n0 : Nat} {D D' : Hp} {ob0 : Nat} (hf : f6 D ob0 = some D') :
    Ct Kt1 l Z (⟨"com/example/planar_drawing_kit/planardrawingkit/inspect/SweepLine", "grow", "()V"⟩ : MethodName) (.code (⟨"com/example/planar_drawing_kit/planardrawingkit/inspect/SweepLine", "grow", "()V"⟩ : MethodName) prog_99_method_12_code 2 none) ({ frames := 2, cells := 7, slots := 112, locals := 34 } : Room) n0 D #[(.ref (n0 + ob0))] none D' := by
  refine Ct.of (plainFor_of_name pn_6) ?_
  intro p e s m below meth c T0 h0 hC X0 e0 O0
  obtain ⟨hx, hZ, hby, hml, hown, hnm, hret, hlk⟩ := id hC
  have hml : c.maxLocals = 2 := hml
  have hown : s.vm.findClass "com/example/planar_drawing_kit/planardrawingkit/inspect/SweepLine" = some m.cls := hown
  have hnm : meth.name = "grow" := hnm
  have N0 := Fr.nil n0
  refine Gl.on (fun t k => castTop (ef_6 m n0 ob0) k) ?_
  rw [f6] at hf
  obtain ⟨x1, hx1, hf⟩ := own_bind hf
  obtain ⟨T2, X2, e2, st2⟩ := getF X0 hx hZ hown (host := "") (Or.inl (hw _ (List.mem_of_getElem? (i := 11) rfl))) Via.refl e0 (O0.fld (gR_e hx1) rfl rfl) (g := (mkF m 4 #[.val (.ref (n0 + ob0)), .unset] [(.ref (n0 + ob0)), (.int (2 : Int32)), (.int (16 : Int32))])) rfl rfl (hb hby d6_4)
  obtain ⟨x3, hx3, hf⟩ := own_bind hf
  obtain ⟨⟨x5, D4⟩, hq4, hf⟩ := own_bind hf
  obtain ⟨_, rfl, hf⟩ := own_letE hf
  obtain ⟨_, rfl, hf⟩ := own_letE hf
  obtain ⟨T4, h4, L4, X4, e4, O4, N4, st4⟩ := callSW X2 hx hZ (y := (⟨"java/lang/Math", "max", "(II)I"⟩ : MethodName)) hown (hw _ (List.mem_of_getElem? (i := 57) rfl)) (hw _ (List.mem_of_getElem? (i := 58) rfl)) (hw _ (List.mem_of_getElem? (i := 59) rfl)) (hw _ (List.mem_of_getElem? (i := 60) rfl)) (by decide) e2 O0 N0 (as' := [(.int (16 : Int32)), (.int ((2 : Int32) * x3))]) (ct7 hw hq4) (W := 0) (kc := 0) (ks := 0) rfl rfl (by decide) (by decide) (g := (mkF m 9 #[.val (.ref (n0 + ob0)), .unset] [(.int ((2 : Int32) * x3)), (.int (16 : Int32))])) rfl (by rw [hml]; rfl) (rest := []) (lenOf pd_1 rfl) rfl (by show 2 * 0 + _ ≤ _; exact Nat.le_of_eq rfl) (hb hby d6_9) (by show _ + 0 ≤ 7; omega) (by show _ + 0 ≤ 112; omega)
  obtain ⟨x6, hx6, hf⟩ := own_bind hf
  obtain ⟨T7, X7, e7, st7⟩ := getF X4 hx hZ hown (host := "") (Or.inl (hw _ (List.mem_of_getElem? (i := 11) rfl))) Via.refl e4 (O4.fld (gR_e hx6) rfl rfl) (g := (mkF m 15 #[.val (.ref (n0 + ob0)), .val (.int x5)] [(.ref (n0 + ob0)), (.ref (n0 + ob0))])) rfl rfl (hb hby d6_15)
  obtain ⟨⟨x9, D8⟩, hq8, hf⟩ := own_bind hf
  obtain ⟨_, rfl, hf⟩ := own_letE hf
  obtain ⟨_, rfl, hf⟩ := own_letE hf
  obtain ⟨T8, h8, L8, X8, e8, O8, N8, st8⟩ := callSW X7 hx hZ (y := (⟨"java/util/Arrays", "copyOf", "([II)[I"⟩ : MethodName)) hown (hw _ (List.mem_of_getElem? (i := 61) rfl)) (hw _ (List.mem_of_getElem? (i := 62) rfl)) (hw _ (List.mem_of_getElem? (i := 40) rfl)) (hw _ (List.mem_of_getElem? (i := 63) rfl)) (by decide) e7 O4 N4 (as' := [(.ref (n0 + x6)), (.int x5)]) (ct8 hw hq8) (W := 1) (kc := 1) (ks := 16) rfl rfl (by decide) (by decide) (g := (mkF m 19 #[.val (.ref (n0 + ob0)), .val (.int x5)] [(.int x5), (.ref (n0 + x6)), (.ref (n0 + ob0))])) rfl (by rw [hml]; rfl) (rest := [(.ref (n0 + ob0))]) (lenOf pd_2 rfl) rfl (by show 2 * 0 + _ ≤ _; exact Nat.le_of_eq rfl) (hb hby d6_19) (by show _ + 1 ≤ 7; omega) (by show _ + 16 ≤ 112; omega)
  obtain ⟨D10, hq10, hf⟩ := own_bind hf
  obtain ⟨T10, h10, L10, X10, e10, O10, N10, st10⟩ := putW X8 hx hZ hown (hw _ (List.mem_of_getElem? (i := 11) rfl)) (lay1 hw) e8 O8 N8 hq10 rfl rfl (Or.inl (hw _ (List.mem_of_getElem? (i := 12) rfl))) (hw _ (List.mem_of_getElem? (i := 2) rfl)) (ty := (.array .int)) (by decide) rfl rfl (g := (mkF m 22 #[.val (.ref (n0 + ob0)), .val (.int x5)] [(.ref (n0 + x9)), (.ref (n0 + ob0))])) rfl rfl (hb hby d6_22)
  obtain ⟨x11, hx11, hf⟩ := own_bind hf
  obtain ⟨T12, X12, e12, st12⟩ := getF X10 hx hZ hown (host := "") (Or.inl (hw _ (List.mem_of_getElem? (i := 13) rfl))) Via.refl e10 (O10.fld (gR_e hx11) rfl rfl) (g := (mkF m 27 #[.val (.ref (n0 + ob0)), .val (.int x5)] [(.ref (n0 + ob0)), (.ref (n0 + ob0))])) rfl rfl (hb hby d6_27)
  obtain ⟨⟨x14, D13⟩, hq13, hf⟩ := own_bind hf
  obtain ⟨_, rfl, hf⟩ := own_letE hf
  obtain ⟨_, rfl, hf⟩ := own_letE hf
  obtain ⟨T13, h13, L13, X13, e13, O13, N13, st13⟩ := callSW X12 hx hZ (y := (⟨"java/util/Arrays", "copyOf", "([II)[I"⟩ : MethodName)) hown (hw _ (List.mem_of_getElem? (i := 61) rfl)) (hw _ (List.mem_of_getElem? (i := 62) rfl)) (hw _ (List.mem_of_getElem? (i := 40) rfl)) (hw _ (List.mem_of_getElem? (i := 63) rfl)) (by decide) e12 O10 N10 (as' := [(.ref (n0 + x11)), (.int x5)]) (ct8 hw hq13) (W := 1) (kc := 1) (ks := 16) rfl rfl (by decide) (by decide) (g := (mkF m 31 #[.val (.ref (n0 + ob0)), .val (.int x5)] [(.int x5), (.ref (n0 + x11)), (.ref (n0 + ob0))])) rfl (by rw [hml]; rfl) (rest := [(.ref (n0 + ob0))]) (lenOf pd_2 rfl) rfl (by show 2 * 0 + _ ≤ _; exact Nat.le_of_eq rfl) (hb hby d6_31) (by show _ + 1 ≤ 7; omega) (by show _ + 16 ≤ 112; omega)
  obtain ⟨D15, hq15, hf⟩ := own_bind hf
  obtain ⟨T15, h15, L15, X15, e15, O15, N15, st15⟩ := putW X13 hx hZ hown (hw _ (List.mem_of_getElem? (i := 13) rfl)) (lay1 hw) e13 O13 N13 hq15 rfl rfl (Or.inl (hw _ (List.mem_of_getElem? (i := 14) rfl))) (hw _ (List.mem_of_getElem? (i := 2) rfl)) (ty := (.array .int)) (by decide) rfl rfl (g := (mkF m 34 #[.val (.ref (n0 + ob0)), .val (.int x5)] [(.ref (n0 + x14)), (.ref (n0 + ob0))])) rfl rfl (hb hby d6_34)
  obtain ⟨x16, hx16, hf⟩ := own_bind hf
  obtain ⟨T17, X17, e17, st17⟩ := getF X15 hx hZ hown (host := "") (Or.inl (hw _ (List.mem_of_getElem? (i := 15) rfl))) Via.refl e15 (O15.fld (gR_e hx16) rfl rfl) (g := (mkF m 39 #[.val (.ref (n0 + ob0)), .val (.int x5)] [(.ref (n0 + ob0)), (.ref (n0 + ob0))])) rfl rfl (hb hby d6_39)
  obtain ⟨⟨x19, D18⟩, hq18, hf⟩ := own_bind hf
  obtain ⟨_, rfl, hf⟩ := own_letE hf
  obtain ⟨_, rfl, hf⟩ := own_letE hf
  obtain ⟨T18, h18, L18, X18, e18, O18, N18, st18⟩ := callSW X17 hx hZ (y := (⟨"java/util/Arrays", "copyOf", "([II)[I"⟩ : MethodName)) hown (hw _ (List.mem_of_getElem? (i := 61) rfl)) (hw _ (List.mem_of_getElem? (i := 62) rfl)) (hw _ (List.mem_of_getElem? (i := 40) rfl)) (hw _ (List.mem_of_getElem? (i := 63) rfl)) (by decide) e17 O15 N15 (as' := [(.ref (n0 + x16)), (.int x5)]) (ct8 hw hq18) (W := 1) (kc := 1) (ks := 16) rfl rfl (by decide) (by decide) (g := (mkF m 43 #[.val (.ref (n0 + ob0)), .val (.int x5)] [(.int x5), (.ref (n0 + x16)), (.ref (n0 + ob0))])) rfl (by rw [hml]; rfl) (rest := [(.ref (n0 + ob0))]) (lenOf pd_2 rfl) rfl (by show 2 * 0 + _ ≤ _; exact Nat.le_of_eq rfl) (hb hby d6_43) (by show _ + 1 ≤ 7; omega) (by show _ + 16 ≤ 112; omega)
  obtain ⟨D20, hq20, hf⟩ := own_bind hf
  obtain ⟨T20, h20, L20, X20, e20, O20, N20, st20⟩ := putW X18 hx hZ hown (hw _ (List.mem_of_getElem? (i := 15) rfl)) (lay1 hw) e18 O18 N18 hq20 rfl rfl (Or.inl (hw _ (List.mem_of_getElem? (i := 16) rfl))) (hw _ (List.mem_of_getElem? (i := 2) rfl)) (ty := (.array .int)) (by decide) rfl rfl (g := (mkF m 46 #[.val (.ref (n0 + ob0)), .val (.int x5)] [(.ref (n0 + x19)), (.ref (n0 + ob0))])) rfl rfl (hb hby d6_46)
  obtain ⟨x21, hx21, hf⟩ := own_bind hf
  obtain ⟨T22, X22, e22, st22⟩ := getF X20 hx hZ hown (host := "") (Or.inl (hw _ (List.mem_of_getElem? (i := 17) rfl))) Via.refl e20 (O20.fld (gR_e hx21) rfl rfl) (g := (mkF m 51 #[.val (.ref (n0 + ob0)), .val (.int x5)] [(.ref (n0 + ob0)), (.ref (n0 + ob0))])) rfl rfl (hb hby d6_51)
  obtain ⟨⟨x24, D23⟩, hq23, hf⟩ := own_bind hf
  obtain ⟨_, rfl, hf⟩ := own_letE hf
  obtain ⟨_, rfl, hf⟩ := own_letE hf
  obtain ⟨T23, h23, L23, X23, e23, O23, N23, st23⟩ := callSW X22 hx hZ (y := (⟨"java/util/Arrays", "copyOf", "([II)[I"⟩ : MethodName)) hown (hw _ (List.mem_of_getElem? (i := 61) rfl)) (hw _ (List.mem_of_getElem? (i := 62) rfl)) (hw _ (List.mem_of_getElem? (i := 40) rfl)) (hw _ (List.mem_of_getElem? (i := 63) rfl)) (by decide) e22 O20 N20 (as' := [(.ref (n0 + x21)), (.int x5)]) (ct8 hw hq23) (W := 1) (kc := 1) (ks := 16) rfl rfl (by decide) (by decide) (g := (mkF m 55 #[.val (.ref (n0 + ob0)), .val (.int x5)] [(.int x5), (.ref (n0 + x21)), (.ref (n0 + ob0))])) rfl (by rw [hml]; rfl) (rest := [(.ref (n0 + ob0))]) (lenOf pd_2 rfl) rfl (by show 2 * 0 + _ ≤ _; exact Nat.le_of_eq rfl) (hb hby d6_55) (by show _ + 1 ≤ 7; omega) (by show _ + 16 ≤ 112; omega)
  obtain ⟨D25, hq25, hf⟩ := own_bind hf
  obtain ⟨T25, h25, L25, X25, e25, O25, N25, st25⟩ := putW X23 hx hZ hown (hw _ (List.mem_of_getElem? (i := 17) rfl)) (lay1 hw) e23 O23 N23 hq25 rfl rfl (Or.inl (hw _ (List.mem_of_getElem? (i := 18) rfl))) (hw _ (List.mem_of_getElem? (i := 2) rfl)) (ty := (.array .int)) (by decide) rfl rfl (g := (mkF m 58 #[.val (.ref (n0 + ob0)), .val (.int x5)] [(.ref (n0 + x24)), (.ref (n0 + ob0))])) rfl rfl (hb hby d6_58)
  obtain ⟨x26, hx26, hf⟩ := own_bind hf
  obtain ⟨T27, X27, e27, st27⟩ := getF X25 hx hZ hown (host := "") (Or.inl (hw _ (List.mem_of_getElem? (i := 19) rfl))) Via.refl e25 (O25.fld (gR_e hx26) rfl rfl) (g := (mkF m 63 #[.val (.ref (n0 + ob0)), .val (.int x5)] [(.ref (n0 + ob0)), (.ref (n0 + ob0))])) rfl rfl (hb hby d6_63)
  obtain ⟨⟨x29, D28⟩, hq28, hf⟩ := own_bind hf
  obtain ⟨_, rfl, hf⟩ := own_letE hf
  obtain ⟨_, rfl, hf⟩ := own_letE hf
  obtain ⟨T28, h28, L28, X28, e28, O28, N28, st28⟩ := callSW X27 hx hZ (y := (⟨"java/util/Arrays", "copyOf", "([II)[I"⟩ : MethodName)) hown (hw _ (List.mem_of_getElem? (i := 61) rfl)) (hw _ (List.mem_of_getElem? (i := 62) rfl)) (hw _ (List.mem_of_getElem? (i := 40) rfl)) (hw _ (List.mem_of_getElem? (i := 63) rfl)) (by decide) e27 O25 N25 (as' := [(.ref (n0 + x26)), (.int x5)]) (ct8 hw hq28) (W := 1) (kc := 1) (ks := 16) rfl rfl (by decide) (by decide) (g := (mkF m 67 #[.val (.ref (n0 + ob0)), .val (.int x5)] [(.int x5), (.ref (n0 + x26)), (.ref (n0 + ob0))])) rfl (by rw [hml]; rfl) (rest := [(.ref (n0 + ob0))]) (lenOf pd_2 rfl) rfl (by show 2 * 0 + _ ≤ _; exact Nat.le_of_eq rfl) (hb hby d6_67) (by show _ + 1 ≤ 7; omega) (by show _ + 16 ≤ 112; omega)
  obtain ⟨D30, hq30, hf⟩ := own_bind hf
  obtain ⟨T30, h30, L30, X30, e30, O30, N30, st30⟩ := putW X28 hx hZ hown (hw _ (List.mem_of_getElem? (i := 19) rfl)) (lay1 hw) e28 O28 N28 hq30 rfl rfl (Or.inl (hw _ (List.mem_of_getElem? (i := 20) rfl))) (hw _ (List.mem_of_getElem? (i := 2) rfl)) (ty := (.array .int)) (by decide) rfl rfl (g := (mkF m 70 #[.val (.ref (n0 + ob0)), .val (.int x5)] [(.ref (n0 + x29)), (.ref (n0 + ob0))])) rfl rfl (hb hby d6_70)
  obtain ⟨x31, hx31, hf⟩ := own_bind hf
  obtain ⟨T32, X32, e32, st32⟩ := getF X30 hx hZ hown (host := "") (Or.inl (hw _ (List.mem_of_getElem? (i := 21) rfl))) Via.refl e30 (O30.fld (gR_e hx31) rfl rfl) (g := (mkF m 75 #[.val (.ref (n0 + ob0)), .val (.int x5)] [(.ref (n0 + ob0)), (.ref (n0 + ob0))])) rfl rfl (hb hby d6_75)
  obtain ⟨⟨x34, D33⟩, hq33, hf⟩ := own_bind hf
  obtain ⟨_, rfl, hf⟩ := own_letE hf
  obtain ⟨_, rfl, hf⟩ := own_letE hf
  obtain ⟨T33, h33, L33, X33, e33, O33, N33, st33⟩ := callSW X32 hx hZ (y := (⟨"java/util/Arrays", "copyOf", "([II)[I"⟩ : MethodName)) hown (hw _ (List.mem_of_getElem? (i := 61) rfl)) (hw _ (List.mem_of_getElem? (i := 62) rfl)) (hw _ (List.mem_of_getElem? (i := 40) rfl)) (hw _ (List.mem_of_getElem? (i := 63) rfl)) (by decide) e32 O30 N30 (as' := [(.ref (n0 + x31)), (.int x5)]) (ct8 hw hq33) (W := 1) (kc := 1) (ks := 16) rfl rfl (by decide) (by decide) (g := (mkF m 79 #[.val (.ref (n0 + ob0)), .val (.int x5)] [(.int x5), (.ref (n0 + x31)), (.ref (n0 + ob0))])) rfl (by rw [hml]; rfl) (rest := [(.ref (n0 + ob0))]) (lenOf pd_2 rfl) rfl (by show 2 * 0 + _ ≤ _; exact Nat.le_of_eq rfl) (hb hby d6_79) (by show _ + 1 ≤ 7; omega) (by show _ + 16 ≤ 112; omega)
  obtain ⟨D35, hq35, hf⟩ := own_bind hf
  obtain ⟨T35, h35, L35, X35, e35, O35, N35, st35⟩ := putW X33 hx hZ hown (hw _ (List.mem_of_getElem? (i := 21) rfl)) (lay1 hw) e33 O33 N33 hq35 rfl rfl (Or.inl (hw _ (List.mem_of_getElem? (i := 22) rfl))) (hw _ (List.mem_of_getElem? (i := 2) rfl)) (ty := (.array .int)) (by decide) rfl rfl (g := (mkF m 82 #[.val (.ref (n0 + ob0)), .val (.int x5)] [(.ref (n0 + x34)), (.ref (n0 + ob0))])) rfl rfl (hb hby d6_82)
  obtain ⟨x36, hx36, hf⟩ := own_bind hf
  obtain ⟨T37, X37, e37, st37⟩ := getF X35 hx hZ hown (host := "") (Or.inl (hw _ (List.mem_of_getElem? (i := 23) rfl))) Via.refl e35 (O35.fld (gR_e hx36) rfl rfl) (g := (mkF m 87 #[.val (.ref (n0 + ob0)), .val (.int x5)] [(.ref (n0 + ob0)), (.ref (n0 + ob0))])) rfl rfl (hb hby d6_87)
  obtain ⟨⟨x39, D38⟩, hq38, hf⟩ := own_bind hf
  obtain ⟨_, rfl, hf⟩ := own_letE hf
  obtain ⟨_, rfl, hf⟩ := own_letE hf
  obtain ⟨T38, h38, L38, X38, e38, O38, N38, st38⟩ := callSW X37 hx hZ (y := (⟨"java/util/Arrays", "copyOf", "([II)[I"⟩ : MethodName)) hown (hw _ (List.mem_of_getElem? (i := 61) rfl)) (hw _ (List.mem_of_getElem? (i := 62) rfl)) (hw _ (List.mem_of_getElem? (i := 40) rfl)) (hw _ (List.mem_of_getElem? (i := 63) rfl)) (by decide) e37 O35 N35 (as' := [(.ref (n0 + x36)), (.int x5)]) (ct8 hw hq38) (W := 1) (kc := 1) (ks := 16) rfl rfl (by decide) (by decide) (g := (mkF m 91 #[.val (.ref (n0 + ob0)), .val (.int x5)] [(.int x5), (.ref (n0 + x36)), (.ref (n0 + ob0))])) rfl (by rw [hml]; rfl) (rest := [(.ref (n0 + ob0))]) (lenOf pd_2 rfl) rfl (by show 2 * 0 + _ ≤ _; exact Nat.le_of_eq rfl) (hb hby d6_91) (by show _ + 1 ≤ 7; omega) (by show _ + 16 ≤ 112; omega)
  obtain ⟨D40, hq40, hf⟩ := own_bind hf
  obtain ⟨T40, h40, L40, X40, e40, O40, N40, st40⟩ := putW X38 hx hZ hown (hw _ (List.mem_of_getElem? (i := 23) rfl)) (lay1 hw) e38 O38 N38 hq40 rfl rfl (Or.inl (hw _ (List.mem_of_getElem? (i := 24) rfl))) (hw _ (List.mem_of_getElem? (i := 2) rfl)) (ty := (.array .int)) (by decide) rfl rfl (g := (mkF m 94 #[.val (.ref (n0 + ob0)), .val (.int x5)] [(.ref (n0 + x39)), (.ref (n0 + ob0))])) rfl rfl (hb hby d6_94)
  refine Gl.on (B := T40.setTop (mkF m 97 #[.val (.ref (n0 + ob0)), .val (.int x5)] [])) (fun t k => ?_) ?_
  · show Steps p.tables e below (T0.setTop (mkF m 0 #[.val (.ref (n0 + ob0)), .unset] [])) _
    refine XS.bipush X0.here hx rfl (hb hby d6_0) ?_
    show Steps p.tables e below (T0.setTop (mkF m 2 #[.val (.ref (n0 + ob0)), .unset] [(.int (16 : Int32))])) _
    refine XS.iconst X0.here hx rfl (hb hby d6_2) ?_
    show Steps p.tables e below (T0.setTop (mkF m 3 #[.val (.ref (n0 + ob0)), .unset] [(.int (2 : Int32)), (.int (16 : Int32))])) _
    refine XS.aloadN X0.here hx rfl (hb hby d6_3) rfl rfl ?_
    show Steps p.tables e below (T0.setTop (mkF m 4 #[.val (.ref (n0 + ob0)), .unset] [(.ref (n0 + ob0)), (.int (2 : Int32)), (.int (16 : Int32))])) _
    refine st2 _ ?_
    show Steps p.tables e below (T2.setTop (mkF m 7 #[.val (.ref (n0 + ob0)), .unset] [(.ref (n0 + x1)), (.int (2 : Int32)), (.int (16 : Int32))])) _
    refine lenW' X2 hx hZ e2 O0 hx3 (ty := .int) rfl (g := (mkF m 7 #[.val (.ref (n0 + ob0)), .unset] [(.ref (n0 + x1)), (.int (2 : Int32)), (.int (16 : Int32))])) rfl rfl (hb hby d6_7) _ ?_
    show Steps p.tables e below (T2.setTop (mkF m 8 #[.val (.ref (n0 + ob0)), .unset] [(.int x3), (.int (2 : Int32)), (.int (16 : Int32))])) _
    refine XS.imul X2.here hx rfl (hb hby d6_8) rfl ?_
    show Steps p.tables e below (T2.setTop (mkF m 9 #[.val (.ref (n0 + ob0)), .unset] [(.int ((2 : Int32) * x3)), (.int (16 : Int32))])) _
    refine st4 _ ?_
    show Steps p.tables e below (T4.setTop (mkF m 12 #[.val (.ref (n0 + ob0)), .unset] [(.int x5)])) _
    refine XS.istoreN X4.here hx rfl (hb hby d6_12) rfl (l' := #[.val (.ref (n0 + ob0)), .val (.int x5)]) rfl ?_
    show Steps p.tables e below (T4.setTop (mkF m 13 #[.val (.ref (n0 + ob0)), .val (.int x5)] [])) _
    refine XS.aloadN X4.here hx rfl (hb hby d6_13) rfl rfl ?_
    show Steps p.tables e below (T4.setTop (mkF m 14 #[.val (.ref (n0 + ob0)), .val (.int x5)] [(.ref (n0 + ob0))])) _
    refine XS.aloadN X4.here hx rfl (hb hby d6_14) rfl rfl ?_
    show Steps p.tables e below (T4.setTop (mkF m 15 #[.val (.ref (n0 + ob0)), .val (.int x5)] [(.ref (n0 + ob0)), (.ref (n0 + ob0))])) _
    refine st7 _ ?_
    show Steps p.tables e below (T7.setTop (mkF m 18 #[.val (.ref (n0 + ob0)), .val (.int x5)] [(.ref (n0 + x6)), (.ref (n0 + ob0))])) _
    refine XS.iloadN X7.here hx rfl (hb hby d6_18) rfl ?_
    show Steps p.tables e below (T7.setTop (mkF m 19 #[.val (.ref (n0 + ob0)), .val (.int x5)] [(.int x5), (.ref (n0 + x6)), (.ref (n0 + ob0))])) _
    refine st8 _ ?_
    show Steps p.tables e below (T8.setTop (mkF m 22 #[.val (.ref (n0 + ob0)), .val (.int x5)] [(.ref (n0 + x9)), (.ref (n0 + ob0))])) _
    refine st10 _ ?_
    show Steps p.tables e below (T10.setTop (mkF m 25 #[.val (.ref (n0 + ob0)), .val (.int x5)] [])) _
    refine XS.aloadN X10.here hx rfl (hb hby d6_25) rfl rfl ?_
    show Steps p.tables e below (T10.setTop (mkF m 26 #[.val (.ref (n0 + ob0)), .val (.int x5)] [(.ref (n0 + ob0))])) _
    refine XS.aloadN X10.here hx rfl (hb hby d6_26) rfl rfl ?_
    show Steps p.tables e below (T10.setTop (mkF m 27 #[.val (.ref (n0 + ob0)), .val (.int x5)] [(.ref (n0 + ob0)), (.ref (n0 + ob0))])) _
    refine st12 _ ?_
    show Steps p.tables e below (T12.setTop (mkF m 30 #[.val (.ref (n0 + ob0)), .val (.int x5)] [(.ref (n0 + x11)), (.ref (n0 + ob0))])) _
    refine XS.iloadN X12.here hx rfl (hb hby d6_30) rfl ?_
    show Steps p.tables e below (T12.setTop (mkF m 31 #[.val (.ref (n0 + ob0)), .val (.int x5)] [(.int x5), (.ref (n0 + x11)), (.ref (n0 + ob0))])) _
    refine st13 _ ?_
    show Steps p.tables e below (T13.setTop (mkF m 34 #[.val (.ref (n0 + ob0)), .val (.int x5)] [(.ref (n0 + x14)), (.ref (n0 + ob0))])) _
    refine st15 _ ?_
    show Steps p.tables e below (T15.setTop (mkF m 37 #[.val (.ref (n0 + ob0)), .val (.int x5)] [])) _
    refine XS.aloadN X15.here hx rfl (hb hby d6_37) rfl rfl ?_
    show Steps p.tables e below (T15.setTop (mkF m 38 #[.val (.ref (n0 + ob0)), .val (.int x5)] [(.ref (n0 + ob0))])) _
    refine XS.aloadN X15.here hx rfl (hb hby d6_38) rfl rfl ?_
    show Steps p.tables e below (T15.setTop (mkF m 39 #[.val (.ref (n0 + ob0)), .val (.int x5)] [(.ref (n0 + ob0)), (.ref (n0 + ob0))])) _
    refine st17 _ ?_
    show Steps p.tables e below (T17.setTop (mkF m 42 #[.val (.ref (n0 + ob0)), .val (.int x5)] [(.ref (n0 + x16)), (.ref (n0 + ob0))])) _
    refine XS.iloadN X17.here hx rfl (hb hby d6_42) rfl ?_
    show Steps p.tables e below (T17.setTop (mkF m 43 #[.val (.ref (n0 + ob0)), .val (.int x5)] [(.int x5), (.ref (n0 + x16)), (.ref (n0 + ob0))])) _
    refine st18 _ ?_
    show Steps p.tables e below (T18.setTop (mkF m 46 #[.val (.ref (n0 + ob0)), .val (.int x5)] [(.ref (n0 + x19)), (.ref (n0 + ob0))])) _
    refine st20 _ ?_
    show Steps p.tables e below (T20.setTop (mkF m 49 #[.val (.ref (n0 + ob0)), .val (.int x5)] [])) _
    refine XS.aloadN X20.here hx rfl (hb hby d6_49) rfl rfl ?_
    show Steps p.tables e below (T20.setTop (mkF m 50 #[.val (.ref (n0 + ob0)), .val (.int x5)] [(.ref (n0 + ob0))])) _
    refine XS.aloadN X20.here hx rfl (hb hby d6_50) rfl rfl ?_
    show Steps p.tables e below (T20.setTop (mkF m 51 #[.val (.ref (n0 + ob0)), .val (.int x5)] [(.ref (n0 + ob0)), (.ref (n0 + ob0))])) _
    refine st22 _ ?_
    show Steps p.tables e below (T22.setTop (mkF m 54 #[.val (.ref (n0 + ob0)), .val (.int x5)] [(.ref (n0 + x21)), (.ref (n0 + ob0))])) _
    refine XS.iloadN X22.here hx rfl (hb hby d6_54) rfl ?_
    show Steps p.tables e below (T22.setTop (mkF m 55 #[.val (.ref (n0 + ob0)), .val (.int x5)] [(.int x5), (.ref (n0 + x21)), (.ref (n0 + ob0))])) _
    refine st23 _ ?_
    show Steps p.tables e below (T23.setTop (mkF m 58 #[.val (.ref (n0 + ob0)), .val (.int x5)] [(.ref (n0 + x24)), (.ref (n0 + ob0))])) _
    refine st25 _ ?_
    show Steps p.tables e below (T25.setTop (mkF m 61 #[.val (.ref (n0 + ob0)), .val (.int x5)] [])) _
    refine XS.aloadN X25.here hx rfl (hb hby d6_61) rfl rfl ?_
    show Steps p.tables e below (T25.setTop (mkF m 62 #[.val (.ref (n0 + ob0)), .val (.int x5)] [(.ref (n0 + ob0))])) _
    refine XS.aloadN X25.here hx rfl (hb hby d6_62) rfl rfl ?_
    show Steps p.tables e below (T25.setTop (mkF m 63 #[.val (.ref (n0 + ob0)), .val (.int x5)] [(.ref (n0 + ob0)), (.ref (n0 + ob0))])) _
    refine st27 _ ?_
    show Steps p.tables e below (T27.setTop (mkF m 66 #[.val (.ref (n0 + ob0)), .val (.int x5)] [(.ref (n0 + x26)), (.ref (n0 + ob0))])) _
    refine XS.iloadN X27.here hx rfl (hb hby d6_66) rfl ?_
    show Steps p.tables e below (T27.setTop (mkF m 67 #[.val (.ref (n0 + ob0)), .val (.int x5)] [(.int x5), (.ref (n0 + x26)), (.ref (n0 + ob0))])) _
    refine st28 _ ?_
    show Steps p.tables e below (T28.setTop (mkF m 70 #[.val (.ref (n0 + ob0)), .val (.int x5)] [(.ref (n0 + x29)), (.ref (n0 + ob0))])) _
    refine st30 _ ?_
    show Steps p.tables e below (T30.setTop (mkF m 73 #[.val (.ref (n0 + ob0)), .val (.int x5)] [])) _
    refine XS.aloadN X30.here hx rfl (hb hby d6_73) rfl rfl ?_
    show Steps p.tables e below (T30.setTop (mkF m 74 #[.val (.ref (n0 + ob0)), .val (.int x5)] [(.ref (n0 + ob0))])) _
    refine XS.aloadN X30.here hx rfl (hb hby d6_74) rfl rfl ?_
    show Steps p.tables e below (T30.setTop (mkF m 75 #[.val (.ref (n0 + ob0)), .val (.int x5)] [(.ref (n0 + ob0)), (.ref (n0 + ob0))])) _
    refine st32 _ ?_
    show Steps p.tables e below (T32.setTop (mkF m 78 #[.val (.ref (n0 + ob0)), .val (.int x5)] [(.ref (n0 + x31)), (.ref (n0 + ob0))])) _
    refine XS.iloadN X32.here hx rfl (hb hby d6_78) rfl ?_
    show Steps p.tables e below (T32.setTop (mkF m 79 #[.val (.ref (n0 + ob0)), .val (.int x5)] [(.int x5), (.ref (n0 + x31)), (.ref (n0 + ob0))])) _
    refine st33 _ ?_
    show Steps p.tables e below (T33.setTop (mkF m 82 #[.val (.ref (n0 + ob0)), .val (.int x5)] [(.ref (n0 + x34)), (.ref (n0 + ob0))])) _
    refine st35 _ ?_
    show Steps p.tables e below (T35.setTop (mkF m 85 #[.val (.ref (n0 + ob0)), .val (.int x5)] [])) _
    refine XS.aloadN X35.here hx rfl (hb hby d6_85) rfl rfl ?_
    show Steps p.tables e below (T35.setTop (mkF m 86 #[.val (.ref (n0 + ob0)), .val (.int x5)] [(.ref (n0 + ob0))])) _
    refine XS.aloadN X35.here hx rfl (hb hby d6_86) rfl rfl ?_
    show Steps p.tables e below (T35.setTop (mkF m 87 #[.val (.ref (n0 + ob0)), .val (.int x5)] [(.ref (n0 + ob0)), (.ref (n0 + ob0))])) _
    refine st37 _ ?_
    show Steps p.tables e below (T37.setTop (mkF m 90 #[.val (.ref (n0 + ob0)), .val (.int x5)] [(.ref (n0 + x36)), (.ref (n0 + ob0))])) _
    refine XS.iloadN X37.here hx rfl (hb hby d6_90) rfl ?_
    show Steps p.tables e below (T37.setTop (mkF m 91 #[.val (.ref (n0 + ob0)), .val (.int x5)] [(.int x5), (.ref (n0 + x36)), (.ref (n0 + ob0))])) _
    refine st38 _ ?_
    show Steps p.tables e below (T38.setTop (mkF m 94 #[.val (.ref (n0 + ob0)), .val (.int x5)] [(.ref (n0 + x39)), (.ref (n0 + ob0))])) _
    refine st40 _ ?_
    exact k
  obtain rfl := own_inj1 hf
  exact Gl.outV X40 hx hlk hret (hb hby d6_97) ⟨rfl, N40, by rw [e40]; exact O40⟩ (by show _ ≤ 7; omega) (by show _ ≤ 112; omega)
theorem pd_3 : parseMethodDescriptor "()V" = some ⟨[], none⟩ := by decide +kernel
theorem d5_0 : decode prog_99_method_11_code 0 = .ok (.aload_n 0, 1) := by decide +kernel
theorem d5_1 : decode prog_99_method_11_code 1 = .ok (.getfield 41, 3) := by decide +kernel
theorem d5_4 : decode prog_99_method_11_code 4 = .ok (.iconst (-1), 1) := by decide +kernel
theorem d5_5 : decode prog_99_method_11_code 5 = .ok (.if_icmp .eq 21, 3) := by decide +kernel
theorem d5_8 : decode prog_99_method_11_code 8 = .ok (.aload_n 0, 1) := by decide +kernel
theorem d5_9 : decode prog_99_method_11_code 9 = .ok (.getfield 41, 3) := by decide +kernel
theorem d5_12 : decode prog_99_method_11_code 12 = .ok (.istore_n 2, 1) := by decide +kernel
theorem d5_13 : decode prog_99_method_11_code 13 = .ok (.aload_n 0, 1) := by decide +kernel
theorem d5_14 : decode prog_99_method_11_code 14 = .ok (.aload_n 0, 1) := by decide +kernel
theorem d5_15 : decode prog_99_method_11_code 15 = .ok (.getfield 28, 3) := by decide +kernel
theorem d5_18 : decode prog_99_method_11_code 18 = .ok (.iload_n 2, 1) := by decide +kernel
theorem d5_19 : decode prog_99_method_11_code 19 = .ok (.iaload, 1) := by decide +kernel
theorem d5_20 : decode prog_99_method_11_code 20 = .ok (.putfield 41, 3) := by decide +kernel
theorem d5_23 : decode prog_99_method_11_code 23 = .ok (.goto 34, 3) := by decide +kernel
theorem d5_26 : decode prog_99_method_11_code 26 = .ok (.aload_n 0, 1) := by decide +kernel
theorem d5_27 : decode prog_99_method_11_code 27 = .ok (.getfield 78, 3) := by decide +kernel
theorem d5_30 : decode prog_99_method_11_code 30 = .ok (.aload_n 0, 1) := by decide +kernel
theorem d5_31 : decode prog_99_method_11_code 31 = .ok (.getfield 7, 3) := by decide +kernel
theorem d5_34 : decode prog_99_method_11_code 34 = .ok (.arraylength, 1) := by decide +kernel
theorem d5_35 : decode prog_99_method_11_code 35 = .ok (.if_icmp .ne 7, 3) := by decide +kernel
theorem d5_38 : decode prog_99_method_11_code 38 = .ok (.aload_n 0, 1) := by decide +kernel
theorem d5_39 : decode prog_99_method_11_code 39 = .ok (.invokevirtual 81, 3) := by decide +kernel
theorem d5_42 : decode prog_99_method_11_code 42 = .ok (.aload_n 0, 1) := by decide +kernel
theorem d5_43 : decode prog_99_method_11_code 43 = .ok (.getfield 78, 3) := by decide +kernel
theorem d5_46 : decode prog_99_method_11_code 46 = .ok (.istore_n 2, 1) := by decide +kernel
theorem d5_47 : decode prog_99_method_11_code 47 = .ok (.aload_n 0, 1) := by decide +kernel
theorem d5_48 : decode prog_99_method_11_code 48 = .ok (.dup, 1) := by decide +kernel
theorem d5_49 : decode prog_99_method_11_code 49 = .ok (.getfield 78, 3) := by decide +kernel
theorem d5_52 : decode prog_99_method_11_code 52 = .ok (.iconst 1, 1) := by decide +kernel
theorem d5_53 : decode prog_99_method_11_code 53 = .ok (.iadd, 1) := by decide +kernel
theorem d5_54 : decode prog_99_method_11_code 54 = .ok (.putfield 78, 3) := by decide +kernel
theorem d5_57 : decode prog_99_method_11_code 57 = .ok (.aload_n 0, 1) := by decide +kernel
theorem d5_58 : decode prog_99_method_11_code 58 = .ok (.dup, 1) := by decide +kernel
theorem d5_59 : decode prog_99_method_11_code 59 = .ok (.getfield 45, 3) := by decide +kernel
theorem d5_62 : decode prog_99_method_11_code 62 = .ok (.aload_n 0, 1) := by decide +kernel
theorem d5_63 : decode prog_99_method_11_code 63 = .ok (.getfield 45, 3) := by decide +kernel
theorem d5_66 : decode prog_99_method_11_code 66 = .ok (.bipush 13, 2) := by decide +kernel
theorem d5_68 : decode prog_99_method_11_code 68 = .ok (.ishl, 1) := by decide +kernel
theorem d5_69 : decode prog_99_method_11_code 69 = .ok (.ixor, 1) := by decide +kernel
theorem d5_70 : decode prog_99_method_11_code 70 = .ok (.putfield 45, 3) := by decide +kernel
theorem d5_73 : decode prog_99_method_11_code 73 = .ok (.aload_n 0, 1) := by decide +kernel
theorem d5_74 : decode prog_99_method_11_code 74 = .ok (.dup, 1) := by decide +kernel
theorem d5_75 : decode prog_99_method_11_code 75 = .ok (.getfield 45, 3) := by decide +kernel
theorem d5_78 : decode prog_99_method_11_code 78 = .ok (.aload_n 0, 1) := by decide +kernel
theorem d5_79 : decode prog_99_method_11_code 79 = .ok (.getfield 45, 3) := by decide +kernel
theorem d5_82 : decode prog_99_method_11_code 82 = .ok (.bipush 17, 2) := by decide +kernel
theorem d5_84 : decode prog_99_method_11_code 84 = .ok (.iushr, 1) := by decide +kernel
theorem d5_85 : decode prog_99_method_11_code 85 = .ok (.ixor, 1) := by decide +kernel
theorem d5_86 : decode prog_99_method_11_code 86 = .ok (.putfield 45, 3) := by decide +kernel
theorem d5_89 : decode prog_99_method_11_code 89 = .ok (.aload_n 0, 1) := by decide +kernel
theorem d5_90 : decode prog_99_method_11_code 90 = .ok (.dup, 1) := by decide +kernel
theorem d5_91 : decode prog_99_method_11_code 91 = .ok (.getfield 45, 3) := by decide +kernel
theorem d5_94 : decode prog_99_method_11_code 94 = .ok (.aload_n 0, 1) := by decide +kernel
theorem d5_95 : decode prog_99_method_11_code 95 = .ok (.getfield 45, 3) := by decide +kernel
theorem d5_98 : decode prog_99_method_11_code 98 = .ok (.iconst 5, 1) := by decide +kernel
theorem d5_99 : decode prog_99_method_11_code 99 = .ok (.ishl, 1) := by decide +kernel
theorem d5_100 : decode prog_99_method_11_code 100 = .ok (.ixor, 1) := by decide +kernel
theorem d5_101 : decode prog_99_method_11_code 101 = .ok (.putfield 45, 3) := by decide +kernel
theorem d5_104 : decode prog_99_method_11_code 104 = .ok (.aload_n 0, 1) := by decide +kernel
theorem d5_105 : decode prog_99_method_11_code 105 = .ok (.getfield 7, 3) := by decide +kernel
theorem d5_108 : decode prog_99_method_11_code 108 = .ok (.iload_n 2, 1) := by decide +kernel
theorem d5_109 : decode prog_99_method_11_code 109 = .ok (.iload_n 1, 1) := by decide +kernel
theorem d5_110 : decode prog_99_method_11_code 110 = .ok (.iastore, 1) := by decide +kernel
theorem d5_111 : decode prog_99_method_11_code 111 = .ok (.aload_n 0, 1) := by decide +kernel
theorem d5_112 : decode prog_99_method_11_code 112 = .ok (.getfield 13, 3) := by decide +kernel
theorem d5_115 : decode prog_99_method_11_code 115 = .ok (.iload_n 2, 1) := by decide +kernel
theorem d5_116 : decode prog_99_method_11_code 116 = .ok (.iconst (-1), 1) := by decide +kernel
theorem d5_117 : decode prog_99_method_11_code 117 = .ok (.iastore, 1) := by decide +kernel
theorem d5_118 : decode prog_99_method_11_code 118 = .ok (.aload_n 0, 1) := by decide +kernel
theorem d5_119 : decode prog_99_method_11_code 119 = .ok (.getfield 16, 3) := by decide +kernel
theorem d5_122 : decode prog_99_method_11_code 122 = .ok (.iload_n 2, 1) := by decide +kernel
theorem d5_123 : decode prog_99_method_11_code 123 = .ok (.iconst (-1), 1) := by decide +kernel
theorem d5_124 : decode prog_99_method_11_code 124 = .ok (.iastore, 1) := by decide +kernel
theorem d5_125 : decode prog_99_method_11_code 125 = .ok (.aload_n 0, 1) := by decide +kernel
theorem d5_126 : decode prog_99_method_11_code 126 = .ok (.getfield 19, 3) := by decide +kernel
theorem d5_129 : decode prog_99_method_11_code 129 = .ok (.iload_n 2, 1) := by decide +kernel
theorem d5_130 : decode prog_99_method_11_code 130 = .ok (.iconst (-1), 1) := by decide +kernel
theorem d5_131 : decode prog_99_method_11_code 131 = .ok (.iastore, 1) := by decide +kernel
theorem d5_132 : decode prog_99_method_11_code 132 = .ok (.aload_n 0, 1) := by decide +kernel
theorem d5_133 : decode prog_99_method_11_code 133 = .ok (.getfield 22, 3) := by decide +kernel
theorem d5_136 : decode prog_99_method_11_code 136 = .ok (.iload_n 2, 1) := by decide +kernel
theorem d5_137 : decode prog_99_method_11_code 137 = .ok (.aload_n 0, 1) := by decide +kernel
theorem d5_138 : decode prog_99_method_11_code 138 = .ok (.getfield 45, 3) := by decide +kernel
theorem d5_141 : decode prog_99_method_11_code 141 = .ok (.iastore, 1) := by decide +kernel
theorem d5_142 : decode prog_99_method_11_code 142 = .ok (.aload_n 0, 1) := by decide +kernel
theorem d5_143 : decode prog_99_method_11_code 143 = .ok (.getfield 48, 3) := by decide +kernel
theorem d5_146 : decode prog_99_method_11_code 146 = .ok (.iload_n 1, 1) := by decide +kernel
theorem d5_147 : decode prog_99_method_11_code 147 = .ok (.iload_n 2, 1) := by decide +kernel
theorem d5_148 : decode prog_99_method_11_code 148 = .ok (.iastore, 1) := by decide +kernel
theorem d5_149 : decode prog_99_method_11_code 149 = .ok (.iload_n 2, 1) := by decide +kernel
theorem d5_150 : decode prog_99_method_11_code 150 = .ok (.ireturn, 1) := by decide +kernel
theorem pn_5 : plainName "com/example/planar_drawing_kit/planardrawingkit/inspect/SweepLine" = true := by first | (simp [plainName, overriddenIn]; done) | decide +kernel
def b5_57 (D : Hp) (ob0 : Nat) (i1 : Int32) (i2 : Int32) : Option (Int32 × Hp) :=
  (gI D ob0 1 11).bind fun x23 =>
  (gI D ob0 1 11).bind fun x25 =>
  (pV D ob0 1 11 (.int (x23 ^^^ (x25 <<< ((13 : Int32) &&& 31))))).bind fun D27 =>
  (gI D27 ob0 1 11).bind fun x28 =>
  (gI D27 ob0 1 11).bind fun x30 =>
  (pV D27 ob0 1 11 (.int (x28 ^^^ ((x30.toUInt32 >>> ((17 : Int32) &&& 31).toUInt32).toInt32)))).bind fun D32 =>
  (gI D32 ob0 1 11).bind fun x33 =>
  (gI D32 ob0 1 11).bind fun x35 =>
  (pV D32 ob0 1 11 (.int (x33 ^^^ (x35 <<< ((5 : Int32) &&& 31))))).bind fun D37 =>
  (gR D37 ob0 1 0).bind fun x38 =>
  (wV D37 x38 0 i2 (.int i1)).bind fun D40 =>
  (gR D40 ob0 1 1).bind fun x41 =>
  (wV D40 x41 0 i2 (.int (-1 : Int32))).bind fun D43 =>
  (gR D43 ob0 1 2).bind fun x44 =>
  (wV D43 x44 0 i2 (.int (-1 : Int32))).bind fun D46 =>
  (gR D46 ob0 1 3).bind fun x47 =>
  (wV D46 x47 0 i2 (.int (-1 : Int32))).bind fun D49 =>
  (gR D49 ob0 1 4).bind fun x50 =>
  (gI D49 ob0 1 11).bind fun x52 =>
  (wV D49 x50 0 i2 (.int x52)).bind fun D54 =>
  (gR D54 ob0 1 12).bind fun x55 =>
  (wV D54 x55 0 i1 (.int i2)).bind fun D57 =>
  some (i2, D57)
set_option maxRecDepth 65536 in
set_option maxHeartbeats 40000000 in
theorem bt5_57 {p : Program} {l : Launch} {e : Env} {s : State} {m : MethodId} {args : Array Value} {below : List Frame} {meth : Method} {c : Code} {Z : State} {a0 : Array Value} {n0 : Nat} {D' : Hp} {r : Int32} {T0 : State} {locs : List Loc} {cells slots : Nat} {h0 : Heap} {D : Hp} {ob0 : Nat} {i1 : Int32} {i2 : Int32} (hw : ∀ d ∈ tables_1, d.before a0 Z = true) (hC : Cx p s m meth c Z prog_99_method_11_code 3 (some .int) "com/example/planar_drawing_kit/planardrawingkit/inspect/SweepLine" "newNode") (X0 : Stand p l e ({ frames := 3, cells := 7, slots := 112, locals := 47 } : Room) s m args below meth c T0 locs cells slots) (e0 : T0.heap = h0) (O0 : Ow Kt1 Z h0 n0 D) (N0 : Fr n0 locs) (hcc : cells ≤ 7) (hss : slots ≤ 112) (hf : b5_57 D ob0 i1 i2 = some (r, D')) : Gl p e below s 7 112 (Qw Kt1 Z n0 (some (.int r)) D') (T0.setTop (mkF m 57 #[.val (.ref (n0 + ob0)), .val (.int i1), .val (.int i2)] [])) := by
  obtain ⟨hx, hZ, hby, hml, hown, hnm, hret, hlk⟩ := id hC
  have hml : c.maxLocals = 3 := hml
  rw [b5_57] at hf
  obtain ⟨x23, hx23, hf⟩ := own_bind hf
  obtain ⟨T24, X24, e24, st24⟩ := getF X0 hx hZ hown (host := "") (Or.inl (hw _ (List.mem_of_getElem? (i := 34) rfl))) Via.refl e0 (O0.fld (gI_e hx23) rfl rfl) (g := (mkF m 59 #[.val (.ref (n0 + ob0)), .val (.int i1), .val (.int i2)] [(.ref (n0 + ob0)), (.ref (n0 + ob0))])) rfl rfl (hb hby d5_59)
  obtain ⟨x25, hx25, hf⟩ := own_bind hf
  obtain ⟨T26, X26, e26, st26⟩ := getF X24 hx hZ hown (host := "") (Or.inl (hw _ (List.mem_of_getElem? (i := 34) rfl))) Via.refl e24 (O0.fld (gI_e hx25) rfl rfl) (g := (mkF m 63 #[.val (.ref (n0 + ob0)), .val (.int i1), .val (.int i2)] [(.ref (n0 + ob0)), (.int x23), (.ref (n0 + ob0))])) rfl rfl (hb hby d5_63)
  obtain ⟨D27, hq27, hf⟩ := own_bind hf
  obtain ⟨T27, h27, L27, X27, e27, O27, N27, st27⟩ := putW X26 hx hZ hown (hw _ (List.mem_of_getElem? (i := 34) rfl)) (lay1 hw) e26 O0 N0 hq27 rfl rfl (Or.inl (hw _ (List.mem_of_getElem? (i := 35) rfl))) (hw _ (List.mem_of_getElem? (i := 2) rfl)) (ty := .int) (by decide) rfl rfl (g := (mkF m 70 #[.val (.ref (n0 + ob0)), .val (.int i1), .val (.int i2)] [(.int (x23 ^^^ (x25 <<< ((13 : Int32) &&& 31)))), (.ref (n0 + ob0))])) rfl rfl (hb hby d5_70)
  obtain ⟨x28, hx28, hf⟩ := own_bind hf
  obtain ⟨T29, X29, e29, st29⟩ := getF X27 hx hZ hown (host := "") (Or.inl (hw _ (List.mem_of_getElem? (i := 34) rfl))) Via.refl e27 (O27.fld (gI_e hx28) rfl rfl) (g := (mkF m 75 #[.val (.ref (n0 + ob0)), .val (.int i1), .val (.int i2)] [(.ref (n0 + ob0)), (.ref (n0 + ob0))])) rfl rfl (hb hby d5_75)
  obtain ⟨x30, hx30, hf⟩ := own_bind hf
  obtain ⟨T31, X31, e31, st31⟩ := getF X29 hx hZ hown (host := "") (Or.inl (hw _ (List.mem_of_getElem? (i := 34) rfl))) Via.refl e29 (O27.fld (gI_e hx30) rfl rfl) (g := (mkF m 79 #[.val (.ref (n0 + ob0)), .val (.int i1), .val (.int i2)] [(.ref (n0 + ob0)), (.int x28), (.ref (n0 + ob0))])) rfl rfl (hb hby d5_79)
  obtain ⟨D32, hq32, hf⟩ := own_bind hf
  obtain ⟨T32, h32, L32, X32, e32, O32, N32, st32⟩ := putW X31 hx hZ hown (hw _ (List.mem_of_getElem? (i := 34) rfl)) (lay1 hw) e31 O27 N27 hq32 rfl rfl (Or.inl (hw _ (List.mem_of_getElem? (i := 35) rfl))) (hw _ (List.mem_of_getElem? (i := 2) rfl)) (ty := .int) (by decide) rfl rfl (g := (mkF m 86 #[.val (.ref (n0 + ob0)), .val (.int i1), .val (.int i2)] [(.int (x28 ^^^ ((x30.toUInt32 >>> ((17 : Int32) &&& 31).toUInt32).toInt32))), (.ref (n0 + ob0))])) rfl rfl (hb hby d5_86)
  obtain ⟨x33, hx33, hf⟩ := own_bind hf
  obtain ⟨T34, X34, e34, st34⟩ := getF X32 hx hZ hown (host := "") (Or.inl (hw _ (List.mem_of_getElem? (i := 34) rfl))) Via.refl e32 (O32.fld (gI_e hx33) rfl rfl) (g := (mkF m 91 #[.val (.ref (n0 + ob0)), .val (.int i1), .val (.int i2)] [(.ref (n0 + ob0)), (.ref (n0 + ob0))])) rfl rfl (hb hby d5_91)
  obtain ⟨x35, hx35, hf⟩ := own_bind hf
  obtain ⟨T36, X36, e36, st36⟩ := getF X34 hx hZ hown (host := "") (Or.inl (hw _ (List.mem_of_getElem? (i := 34) rfl))) Via.refl e34 (O32.fld (gI_e hx35) rfl rfl) (g := (mkF m 95 #[.val (.ref (n0 + ob0)), .val (.int i1), .val (.int i2)] [(.ref (n0 + ob0)), (.int x33), (.ref (n0 + ob0))])) rfl rfl (hb hby d5_95)
  obtain ⟨D37, hq37, hf⟩ := own_bind hf
  obtain ⟨T37, h37, L37, X37, e37, O37, N37, st37⟩ := putW X36 hx hZ hown (hw _ (List.mem_of_getElem? (i := 34) rfl)) (lay1 hw) e36 O32 N32 hq37 rfl rfl (Or.inl (hw _ (List.mem_of_getElem? (i := 35) rfl))) (hw _ (List.mem_of_getElem? (i := 2) rfl)) (ty := .int) (by decide) rfl rfl (g := (mkF m 101 #[.val (.ref (n0 + ob0)), .val (.int i1), .val (.int i2)] [(.int (x33 ^^^ (x35 <<< ((5 : Int32) &&& 31)))), (.ref (n0 + ob0))])) rfl rfl (hb hby d5_101)
  obtain ⟨x38, hx38, hf⟩ := own_bind hf
  obtain ⟨T39, X39, e39, st39⟩ := getF X37 hx hZ hown (host := "") (Or.inl (hw _ (List.mem_of_getElem? (i := 11) rfl))) Via.refl e37 (O37.fld (gR_e hx38) rfl rfl) (g := (mkF m 105 #[.val (.ref (n0 + ob0)), .val (.int i1), .val (.int i2)] [(.ref (n0 + ob0))])) rfl rfl (hb hby d5_105)
  obtain ⟨D40, hq40, hf⟩ := own_bind hf
  obtain ⟨T40, h40, L40, X40, e40, O40, N40, st40⟩ := stIW X39 hx hZ e39 O37 N37 hq40 rfl (g := (mkF m 110 #[.val (.ref (n0 + ob0)), .val (.int i1), .val (.int i2)] [(.int i1), (.int i2), (.ref (n0 + x38))])) rfl rfl (hb hby d5_110)
  obtain ⟨x41, hx41, hf⟩ := own_bind hf
  obtain ⟨T42, X42, e42, st42⟩ := getF X40 hx hZ hown (host := "") (Or.inl (hw _ (List.mem_of_getElem? (i := 13) rfl))) Via.refl e40 (O40.fld (gR_e hx41) rfl rfl) (g := (mkF m 112 #[.val (.ref (n0 + ob0)), .val (.int i1), .val (.int i2)] [(.ref (n0 + ob0))])) rfl rfl (hb hby d5_112)
  obtain ⟨D43, hq43, hf⟩ := own_bind hf
  obtain ⟨T43, h43, L43, X43, e43, O43, N43, st43⟩ := stIW X42 hx hZ e42 O40 N40 hq43 rfl (g := (mkF m 117 #[.val (.ref (n0 + ob0)), .val (.int i1), .val (.int i2)] [(.int (-1 : Int32)), (.int i2), (.ref (n0 + x41))])) rfl rfl (hb hby d5_117)
  obtain ⟨x44, hx44, hf⟩ := own_bind hf
  obtain ⟨T45, X45, e45, st45⟩ := getF X43 hx hZ hown (host := "") (Or.inl (hw _ (List.mem_of_getElem? (i := 15) rfl))) Via.refl e43 (O43.fld (gR_e hx44) rfl rfl) (g := (mkF m 119 #[.val (.ref (n0 + ob0)), .val (.int i1), .val (.int i2)] [(.ref (n0 + ob0))])) rfl rfl (hb hby d5_119)
  obtain ⟨D46, hq46, hf⟩ := own_bind hf
  obtain ⟨T46, h46, L46, X46, e46, O46, N46, st46⟩ := stIW X45 hx hZ e45 O43 N43 hq46 rfl (g := (mkF m 124 #[.val (.ref (n0 + ob0)), .val (.int i1), .val (.int i2)] [(.int (-1 : Int32)), (.int i2), (.ref (n0 + x44))])) rfl rfl (hb hby d5_124)
  obtain ⟨x47, hx47, hf⟩ := own_bind hf
  obtain ⟨T48, X48, e48, st48⟩ := getF X46 hx hZ hown (host := "") (Or.inl (hw _ (List.mem_of_getElem? (i := 17) rfl))) Via.refl e46 (O46.fld (gR_e hx47) rfl rfl) (g := (mkF m 126 #[.val (.ref (n0 + ob0)), .val (.int i1), .val (.int i2)] [(.ref (n0 + ob0))])) rfl rfl (hb hby d5_126)
  obtain ⟨D49, hq49, hf⟩ := own_bind hf
  obtain ⟨T49, h49, L49, X49, e49, O49, N49, st49⟩ := stIW X48 hx hZ e48 O46 N46 hq49 rfl (g := (mkF m 131 #[.val (.ref (n0 + ob0)), .val (.int i1), .val (.int i2)] [(.int (-1 : Int32)), (.int i2), (.ref (n0 + x47))])) rfl rfl (hb hby d5_131)
  obtain ⟨x50, hx50, hf⟩ := own_bind hf
  obtain ⟨T51, X51, e51, st51⟩ := getF X49 hx hZ hown (host := "") (Or.inl (hw _ (List.mem_of_getElem? (i := 19) rfl))) Via.refl e49 (O49.fld (gR_e hx50) rfl rfl) (g := (mkF m 133 #[.val (.ref (n0 + ob0)), .val (.int i1), .val (.int i2)] [(.ref (n0 + ob0))])) rfl rfl (hb hby d5_133)
  obtain ⟨x52, hx52, hf⟩ := own_bind hf
  obtain ⟨T53, X53, e53, st53⟩ := getF X51 hx hZ hown (host := "") (Or.inl (hw _ (List.mem_of_getElem? (i := 34) rfl))) Via.refl e51 (O49.fld (gI_e hx52) rfl rfl) (g := (mkF m 138 #[.val (.ref (n0 + ob0)), .val (.int i1), .val (.int i2)] [(.ref (n0 + ob0)), (.int i2), (.ref (n0 + x50))])) rfl rfl (hb hby d5_138)
  obtain ⟨D54, hq54, hf⟩ := own_bind hf
  obtain ⟨T54, h54, L54, X54, e54, O54, N54, st54⟩ := stIW X53 hx hZ e53 O49 N49 hq54 rfl (g := (mkF m 141 #[.val (.ref (n0 + ob0)), .val (.int i1), .val (.int i2)] [(.int x52), (.int i2), (.ref (n0 + x50))])) rfl rfl (hb hby d5_141)
  obtain ⟨x55, hx55, hf⟩ := own_bind hf
  obtain ⟨T56, X56, e56, st56⟩ := getF X54 hx hZ hown (host := "") (Or.inl (hw _ (List.mem_of_getElem? (i := 36) rfl))) Via.refl e54 (O54.fld (gR_e hx55) rfl rfl) (g := (mkF m 143 #[.val (.ref (n0 + ob0)), .val (.int i1), .val (.int i2)] [(.ref (n0 + ob0))])) rfl rfl (hb hby d5_143)
  obtain ⟨D57, hq57, hf⟩ := own_bind hf
  obtain ⟨T57, h57, L57, X57, e57, O57, N57, st57⟩ := stIW X56 hx hZ e56 O54 N54 hq57 rfl (g := (mkF m 148 #[.val (.ref (n0 + ob0)), .val (.int i1), .val (.int i2)] [(.int i2), (.int i1), (.ref (n0 + x55))])) rfl rfl (hb hby d5_148)
  refine Gl.on (B := T57.setTop (mkF m 150 #[.val (.ref (n0 + ob0)), .val (.int i1), .val (.int i2)] [(.int i2)])) (fun t k => ?_) ?_
  · show Steps p.tables e below (T0.setTop (mkF m 57 #[.val (.ref (n0 + ob0)), .val (.int i1), .val (.int i2)] [])) _
    refine XS.aloadN X0.here hx rfl (hb hby d5_57) rfl rfl ?_
    show Steps p.tables e below (T0.setTop (mkF m 58 #[.val (.ref (n0 + ob0)), .val (.int i1), .val (.int i2)] [(.ref (n0 + ob0))])) _
    refine XS.dup X0.here hx rfl (hb hby d5_58) rfl rfl ?_
    show Steps p.tables e below (T0.setTop (mkF m 59 #[.val (.ref (n0 + ob0)), .val (.int i1), .val (.int i2)] [(.ref (n0 + ob0)), (.ref (n0 + ob0))])) _
    refine st24 _ ?_
    show Steps p.tables e below (T24.setTop (mkF m 62 #[.val (.ref (n0 + ob0)), .val (.int i1), .val (.int i2)] [(.int x23), (.ref (n0 + ob0))])) _
    refine XS.aloadN X24.here hx rfl (hb hby d5_62) rfl rfl ?_
    show Steps p.tables e below (T24.setTop (mkF m 63 #[.val (.ref (n0 + ob0)), .val (.int i1), .val (.int i2)] [(.ref (n0 + ob0)), (.int x23), (.ref (n0 + ob0))])) _
    refine st26 _ ?_
    show Steps p.tables e below (T26.setTop (mkF m 66 #[.val (.ref (n0 + ob0)), .val (.int i1), .val (.int i2)] [(.int x25), (.int x23), (.ref (n0 + ob0))])) _
    refine XS.bipush X26.here hx rfl (hb hby d5_66) ?_
    show Steps p.tables e below (T26.setTop (mkF m 68 #[.val (.ref (n0 + ob0)), .val (.int i1), .val (.int i2)] [(.int (13 : Int32)), (.int x25), (.int x23), (.ref (n0 + ob0))])) _
    refine XS.ishl X26.here hx rfl (hb hby d5_68) rfl ?_
    show Steps p.tables e below (T26.setTop (mkF m 69 #[.val (.ref (n0 + ob0)), .val (.int i1), .val (.int i2)] [(.int (x25 <<< ((13 : Int32) &&& 31))), (.int x23), (.ref (n0 + ob0))])) _
    refine XS.ixor X26.here hx rfl (hb hby d5_69) rfl ?_
    show Steps p.tables e below (T26.setTop (mkF m 70 #[.val (.ref (n0 + ob0)), .val (.int i1), .val (.int i2)] [(.int (x23 ^^^ (x25 <<< ((13 : Int32) &&& 31)))), (.ref (n0 + ob0))])) _
    refine st27 _ ?_
    show Steps p.tables e below (T27.setTop (mkF m 73 #[.val (.ref (n0 + ob0)), .val (.int i1), .val (.int i2)] [])) _
    refine XS.aloadN X27.here hx rfl (hb hby d5_73) rfl rfl ?_
    show Steps p.tables e below (T27.setTop (mkF m 74 #[.val (.ref (n0 + ob0)), .val (.int i1), .val (.int i2)] [(.ref (n0 + ob0))])) _
    refine XS.dup X27.here hx rfl (hb hby d5_74) rfl rfl ?_
    show Steps p.tables e below (T27.setTop (mkF m 75 #[.val (.ref (n0 + ob0)), .val (.int i1), .val (.int i2)] [(.ref (n0 + ob0)), (.ref (n0 + ob0))])) _
    refine st29 _ ?_
    show Steps p.tables e below (T29.setTop (mkF m 78 #[.val (.ref (n0 + ob0)), .val (.int i1), .val (.int i2)] [(.int x28), (.ref (n0 + ob0))])) _
    refine XS.aloadN X29.here hx rfl (hb hby d5_78) rfl rfl ?_
    show Steps p.tables e below (T29.setTop (mkF m 79 #[.val (.ref (n0 + ob0)), .val (.int i1), .val (.int i2)] [(.ref (n0 + ob0)), (.int x28), (.ref (n0 + ob0))])) _
    refine st31 _ ?_
    show Steps p.tables e below (T31.setTop (mkF m 82 #[.val (.ref (n0 + ob0)), .val (.int i1), .val (.int i2)] [(.int x30), (.int x28), (.ref (n0 + ob0))])) _
    refine XS.bipush X31.here hx rfl (hb hby d5_82) ?_
    show Steps p.tables e below (T31.setTop (mkF m 84 #[.val (.ref (n0 + ob0)), .val (.int i1), .val (.int i2)] [(.int (17 : Int32)), (.int x30), (.int x28), (.ref (n0 + ob0))])) _
    refine XS.iushr X31.here hx rfl (hb hby d5_84) rfl ?_
    show Steps p.tables e below (T31.setTop (mkF m 85 #[.val (.ref (n0 + ob0)), .val (.int i1), .val (.int i2)] [(.int ((x30.toUInt32 >>> ((17 : Int32) &&& 31).toUInt32).toInt32)), (.int x28), (.ref (n0 + ob0))])) _
    refine XS.ixor X31.here hx rfl (hb hby d5_85) rfl ?_
    show Steps p.tables e below (T31.setTop (mkF m 86 #[.val (.ref (n0 + ob0)), .val (.int i1), .val (.int i2)] [(.int (x28 ^^^ ((x30.toUInt32 >>> ((17 : Int32) &&& 31).toUInt32).toInt32))), (.ref (n0 + ob0))])) _
    refine st32 _ ?_
    show Steps p.tables e below (T32.setTop (mkF m 89 #[.val (.ref (n0 + ob0)), .val (.int i1), .val (.int i2)] [])) _
    refine XS.aloadN X32.here hx rfl (hb hby d5_89) rfl rfl ?_
    show Steps p.tables e below (T32.setTop (mkF m 90 #[.val (.ref (n0 + ob0)), .val (.int i1), .val (.int i2)] [(.ref (n0 + ob0))])) _
    refine XS.dup X32.here hx rfl (hb hby d5_90) rfl rfl ?_
    show Steps p.tables e below (T32.setTop (mkF m 91 #[.val (.ref (n0 + ob0)), .val (.int i1), .val (.int i2)] [(.ref (n0 + ob0)), (.ref (n0 + ob0))])) _
    refine st34 _ ?_
    show Steps p.tables e below (T34.setTop (mkF m 94 #[.val (.ref (n0 + ob0)), .val (.int i1), .val (.int i2)] [(.int x33), (.ref (n0 + ob0))])) _
    refine XS.aloadN X34.here hx rfl (hb hby d5_94) rfl rfl ?_
    show Steps p.tables e below (T34.setTop (mkF m 95 #[.val (.ref (n0 + ob0)), .val (.int i1), .val (.int i2)] [(.ref (n0 + ob0)), (.int x33), (.ref (n0 + ob0))])) _
    refine st36 _ ?_
    show Steps p.tables e below (T36.setTop (mkF m 98 #[.val (.ref (n0 + ob0)), .val (.int i1), .val (.int i2)] [(.int x35), (.int x33), (.ref (n0 + ob0))])) _
    refine XS.iconst X36.here hx rfl (hb hby d5_98) ?_
    show Steps p.tables e below (T36.setTop (mkF m 99 #[.val (.ref (n0 + ob0)), .val (.int i1), .val (.int i2)] [(.int (5 : Int32)), (.int x35), (.int x33), (.ref (n0 + ob0))])) _
    refine XS.ishl X36.here hx rfl (hb hby d5_99) rfl ?_
    show Steps p.tables e below (T36.setTop (mkF m 100 #[.val (.ref (n0 + ob0)), .val (.int i1), .val (.int i2)] [(.int (x35 <<< ((5 : Int32) &&& 31))), (.int x33), (.ref (n0 + ob0))])) _
    refine XS.ixor X36.here hx rfl (hb hby d5_100) rfl ?_
    show Steps p.tables e below (T36.setTop (mkF m 101 #[.val (.ref (n0 + ob0)), .val (.int i1), .val (.int i2)] [(.int (x33 ^^^ (x35 <<< ((5 : Int32) &&& 31)))), (.ref (n0 + ob0))])) _
    refine st37 _ ?_
    show Steps p.tables e below (T37.setTop (mkF m 104 #[.val (.ref (n0 + ob0)), .val (.int i1), .val (.int i2)] [])) _
    refine XS.aloadN X37.here hx rfl (hb hby d5_104) rfl rfl ?_
    show Steps p.tables e below (T37.setTop (mkF m 105 #[.val (.ref (n0 + ob0)), .val (.int i1), .val (.int i2)] [(.ref (n0 + ob0))])) _
    refine st39 _ ?_
    show Steps p.tables e below (T39.setTop (mkF m 108 #[.val (.ref (n0 + ob0)), .val (.int i1), .val (.int i2)] [(.ref (n0 + x38))])) _
    refine XS.iloadN X39.here hx rfl (hb hby d5_108) rfl ?_
    show Steps p.tables e below (T39.setTop (mkF m 109 #[.val (.ref (n0 + ob0)), .val (.int i1), .val (.int i2)] [(.int i2), (.ref (n0 + x38))])) _
    refine XS.iloadN X39.here hx rfl (hb hby d5_109) rfl ?_
    show Steps p.tables e below (T39.setTop (mkF m 110 #[.val (.ref (n0 + ob0)), .val (.int i1), .val (.int i2)] [(.int i1), (.int i2), (.ref (n0 + x38))])) _
    refine st40 _ ?_
    show Steps p.tables e below (T40.setTop (mkF m 111 #[.val (.ref (n0 + ob0)), .val (.int i1), .val (.int i2)] [])) _
    refine XS.aloadN X40.here hx rfl (hb hby d5_111) rfl rfl ?_
    show Steps p.tables e below (T40.setTop (mkF m 112 #[.val (.ref (n0 + ob0)), .val (.int i1), .val (.int i2)] [(.ref (n0 + ob0))])) _
    refine st42 _ ?_
    show Steps p.tables e below (T42.setTop (mkF m 115 #[.val (.ref (n0 + ob0)), .val (.int i1), .val (.int i2)] [(.ref (n0 + x41))])) _
    refine XS.iloadN X42.here hx rfl (hb hby d5_115) rfl ?_
    show Steps p.tables e below (T42.setTop (mkF m 116 #[.val (.ref (n0 + ob0)), .val (.int i1), .val (.int i2)] [(.int i2), (.ref (n0 + x41))])) _
    refine XS.iconst X42.here hx rfl (hb hby d5_116) ?_
    show Steps p.tables e below (T42.setTop (mkF m 117 #[.val (.ref (n0 + ob0)), .val (.int i1), .val (.int i2)] [(.int (-1 : Int32)), (.int i2), (.ref (n0 + x41))])) _
    refine st43 _ ?_
    show Steps p.tables e below (T43.setTop (mkF m 118 #[.val (.ref (n0 + ob0)), .val (.int i1), .val (.int i2)] [])) _
    refine XS.aloadN X43.here hx rfl (hb hby d5_118) rfl rfl ?_
    show Steps p.tables e below (T43.setTop (mkF m 119 #[.val (.ref (n0 + ob0)), .val (.int i1), .val (.int i2)] [(.ref (n0 + ob0))])) _
    refine st45 _ ?_
    show Steps p.tables e below (T45.setTop (mkF m 122 #[.val (.ref (n0 + ob0)), .val (.int i1), .val (.int i2)] [(.ref (n0 + x44))])) _
    refine XS.iloadN X45.here hx rfl (hb hby d5_122) rfl ?_
    show Steps p.tables e below (T45.setTop (mkF m 123 #[.val (.ref (n0 + ob0)), .val (.int i1), .val (.int i2)] [(.int i2), (.ref (n0 + x44))])) _
    refine XS.iconst X45.here hx rfl (hb hby d5_123) ?_
    show Steps p.tables e below (T45.setTop (mkF m 124 #[.val (.ref (n0 + ob0)), .val (.int i1), .val (.int i2)] [(.int (-1 : Int32)), (.int i2), (.ref (n0 + x44))])) _
    refine st46 _ ?_
    show Steps p.tables e below (T46.setTop (mkF m 125 #[.val (.ref (n0 + ob0)), .val (.int i1), .val (.int i2)] [])) _
    refine XS.aloadN X46.here hx rfl (hb hby d5_125) rfl rfl ?_
    show Steps p.tables e below (T46.setTop (mkF m 126 #[.val (.ref (n0 + ob0)), .val (.int i1), .val (.int i2)] [(.ref (n0 + ob0))])) _
    refine st48 _ ?_
    show Steps p.tables e below (T48.setTop (mkF m 129 #[.val (.ref (n0 + ob0)), .val (.int i1), .val (.int i2)] [(.ref (n0 + x47))])) _
    refine XS.iloadN X48.here hx rfl (hb hby d5_129) rfl ?_
    show Steps p.tables e below (T48.setTop (mkF m 130 #[.val (.ref (n0 + ob0)), .val (.int i1), .val (.int i2)] [(.int i2), (.ref (n0 + x47))])) _
    refine XS.iconst X48.here hx rfl (hb hby d5_130) ?_
    show Steps p.tables e below (T48.setTop (mkF m 131 #[.val (.ref (n0 + ob0)), .val (.int i1), .val (.int i2)] [(.int (-1 : Int32)), (.int i2), (.ref (n0 + x47))])) _
    refine st49 _ ?_
    show Steps p.tables e below (T49.setTop (mkF m 132 #[.val (.ref (n0 + ob0)), .val (.int i1), .val (.int i2)] [])) _
    refine XS.aloadN X49.here hx rfl (hb hby d5_132) rfl rfl ?_
    show Steps p.tables e below (T49.setTop (mkF m 133 #[.val (.ref (n0 + ob0)), .val (.int i1), .val (.int i2)] [(.ref (n0 + ob0))])) _
    refine st51 _ ?_
    show Steps p.tables e below (T51.setTop (mkF m 136 #[.val (.ref (n0 + ob0)), .val (.int i1), .val (.int i2)] [(.ref (n0 + x50))])) _
    refine XS.iloadN X51.here hx rfl (hb hby d5_136) rfl ?_
    show Steps p.tables e below (T51.setTop (mkF m 137 #[.val (.ref (n0 + ob0)), .val (.int i1), .val (.int i2)] [(.int i2), (.ref (n0 + x50))])) _
    refine XS.aloadN X51.here hx rfl (hb hby d5_137) rfl rfl ?_
    show Steps p.tables e below (T51.setTop (mkF m 138 #[.val (.ref (n0 + ob0)), .val (.int i1), .val (.int i2)] [(.ref (n0 + ob0)), (.int i2), (.ref (n0 + x50))])) _
    refine st53 _ ?_
    show Steps p.tables e below (T53.setTop (mkF m 141 #[.val (.ref (n0 + ob0)), .val (.int i1), .val (.int i2)] [(.int x52), (.int i2), (.ref (n0 + x50))])) _
    refine st54 _ ?_
    show Steps p.tables e below (T54.setTop (mkF m 142 #[.val (.ref (n0 + ob0)), .val (.int i1), .val (.int i2)] [])) _
    refine XS.aloadN X54.here hx rfl (hb hby d5_142) rfl rfl ?_
    show Steps p.tables e below (T54.setTop (mkF m 143 #[.val (.ref (n0 + ob0)), .val (.int i1), .val (.int i2)] [(.ref (n0 + ob0))])) _
    refine st56 _ ?_
    show Steps p.tables e below (T56.setTop (mkF m 146 #[.val (.ref (n0 + ob0)), .val (.int i1), .val (.int i2)] [(.ref (n0 + x55))])) _
    refine XS.iloadN X56.here hx rfl (hb hby d5_146) rfl ?_
    show Steps p.tables e below (T56.setTop (mkF m 147 #[.val (.ref (n0 + ob0)), .val (.int i1), .val (.int i2)] [(.int i1), (.ref (n0 + x55))])) _
    refine XS.iloadN X56.here hx rfl (hb hby d5_147) rfl ?_
    show Steps p.tables e below (T56.setTop (mkF m 148 #[.val (.ref (n0 + ob0)), .val (.int i1), .val (.int i2)] [(.int i2), (.int i1), (.ref (n0 + x55))])) _
    refine st57 _ ?_
    show Steps p.tables e below (T57.setTop (mkF m 149 #[.val (.ref (n0 + ob0)), .val (.int i1), .val (.int i2)] [])) _
    refine XS.iloadN X57.here hx rfl (hb hby d5_149) rfl ?_
    exact k
  obtain ⟨rfl, rfl⟩ := own_inj hf
  exact Gl.outI X57 hx hlk hret (hb hby d5_150) ⟨rfl, N57, by rw [e57]; exact O57⟩ (by show _ ≤ 7; omega) (by show _ ≤ 112; omega)
def b5_42 (D : Hp) (ob0 : Nat) (i1 : Int32) : Option (Int32 × Hp) :=
  (gI D ob0 1 13).bind fun x18 =>
  (gI D ob0 1 13).bind fun x20 =>
  (pV D ob0 1 13 (.int (x20 + (1 : Int32)))).bind fun D22 =>
  b5_57 D22 ob0 i1 x18
set_option maxRecDepth 65536 in
set_option maxHeartbeats 40000000 in
theorem bt5_42 {p : Program} {l : Launch} {e : Env} {s : State} {m : MethodId} {args : Array Value} {below : List Frame} {meth : Method} {c : Code} {Z : State} {a0 : Array Value} {n0 : Nat} {D' : Hp} {r : Int32} {T0 : State} {locs : List Loc} {cells slots : Nat} {h0 : Heap} {D : Hp} {ob0 : Nat} {i1 : Int32} (hw : ∀ d ∈ tables_1, d.before a0 Z = true) (hC : Cx p s m meth c Z prog_99_method_11_code 3 (some .int) "com/example/planar_drawing_kit/planardrawingkit/inspect/SweepLine" "newNode") (X0 : Stand p l e ({ frames := 3, cells := 7, slots := 112, locals := 47 } : Room) s m args below meth c T0 locs cells slots) (e0 : T0.heap = h0) (O0 : Ow Kt1 Z h0 n0 D) (N0 : Fr n0 locs) (hcc : cells ≤ 7) (hss : slots ≤ 112) (hf : b5_42 D ob0 i1 = some (r, D')) : Gl p e below s 7 112 (Qw Kt1 Z n0 (some (.int r)) D') (T0.setTop (mkF m 42 #[.val (.ref (n0 + ob0)), .val (.int i1), .unset] [])) := by
  obtain ⟨hx, hZ, hby, hml, hown, hnm, hret, hlk⟩ := id hC
  have hml : c.maxLocals = 3 := hml
  rw [b5_42] at hf
  obtain ⟨x18, hx18, hf⟩ := own_bind hf
  obtain ⟨T19, X19, e19, st19⟩ := getF X0 hx hZ hown (host := "") (Or.inl (hw _ (List.mem_of_getElem? (i := 51) rfl))) Via.refl e0 (O0.fld (gI_e hx18) rfl rfl) (g := (mkF m 43 #[.val (.ref (n0 + ob0)), .val (.int i1), .unset] [(.ref (n0 + ob0))])) rfl rfl (hb hby d5_43)
  obtain ⟨x20, hx20, hf⟩ := own_bind hf
  obtain ⟨T21, X21, e21, st21⟩ := getF X19 hx hZ hown (host := "") (Or.inl (hw _ (List.mem_of_getElem? (i := 51) rfl))) Via.refl e19 (O0.fld (gI_e hx20) rfl rfl) (g := (mkF m 49 #[.val (.ref (n0 + ob0)), .val (.int i1), .val (.int x18)] [(.ref (n0 + ob0)), (.ref (n0 + ob0))])) rfl rfl (hb hby d5_49)
  obtain ⟨D22, hq22, hf⟩ := own_bind hf
  obtain ⟨T22, h22, L22, X22, e22, O22, N22, st22⟩ := putW X21 hx hZ hown (hw _ (List.mem_of_getElem? (i := 51) rfl)) (lay1 hw) e21 O0 N0 hq22 rfl rfl (Or.inl (hw _ (List.mem_of_getElem? (i := 52) rfl))) (hw _ (List.mem_of_getElem? (i := 2) rfl)) (ty := .int) (by decide) rfl rfl (g := (mkF m 54 #[.val (.ref (n0 + ob0)), .val (.int i1), .val (.int x18)] [(.int (x20 + (1 : Int32))), (.ref (n0 + ob0))])) rfl rfl (hb hby d5_54)
  refine Gl.on (B := T22.setTop (mkF m 57 #[.val (.ref (n0 + ob0)), .val (.int i1), .val (.int x18)] [])) (fun t k => ?_) ?_
  · show Steps p.tables e below (T0.setTop (mkF m 42 #[.val (.ref (n0 + ob0)), .val (.int i1), .unset] [])) _
    refine XS.aloadN X0.here hx rfl (hb hby d5_42) rfl rfl ?_
    show Steps p.tables e below (T0.setTop (mkF m 43 #[.val (.ref (n0 + ob0)), .val (.int i1), .unset] [(.ref (n0 + ob0))])) _
    refine st19 _ ?_
    show Steps p.tables e below (T19.setTop (mkF m 46 #[.val (.ref (n0 + ob0)), .val (.int i1), .unset] [(.int x18)])) _
    refine XS.istoreN X19.here hx rfl (hb hby d5_46) rfl (l' := #[.val (.ref (n0 + ob0)), .val (.int i1), .val (.int x18)]) rfl ?_
    show Steps p.tables e below (T19.setTop (mkF m 47 #[.val (.ref (n0 + ob0)), .val (.int i1), .val (.int x18)] [])) _
    refine XS.aloadN X19.here hx rfl (hb hby d5_47) rfl rfl ?_
    show Steps p.tables e below (T19.setTop (mkF m 48 #[.val (.ref (n0 + ob0)), .val (.int i1), .val (.int x18)] [(.ref (n0 + ob0))])) _
    refine XS.dup X19.here hx rfl (hb hby d5_48) rfl rfl ?_
    show Steps p.tables e below (T19.setTop (mkF m 49 #[.val (.ref (n0 + ob0)), .val (.int i1), .val (.int x18)] [(.ref (n0 + ob0)), (.ref (n0 + ob0))])) _
    refine st21 _ ?_
    show Steps p.tables e below (T21.setTop (mkF m 52 #[.val (.ref (n0 + ob0)), .val (.int i1), .val (.int x18)] [(.int x20), (.ref (n0 + ob0))])) _
    refine XS.iconst X21.here hx rfl (hb hby d5_52) ?_
    show Steps p.tables e below (T21.setTop (mkF m 53 #[.val (.ref (n0 + ob0)), .val (.int i1), .val (.int x18)] [(.int (1 : Int32)), (.int x20), (.ref (n0 + ob0))])) _
    refine XS.iadd X21.here hx rfl (hb hby d5_53) rfl ?_
    show Steps p.tables e below (T21.setTop (mkF m 54 #[.val (.ref (n0 + ob0)), .val (.int i1), .val (.int x18)] [(.int (x20 + (1 : Int32))), (.ref (n0 + ob0))])) _
    refine st22 _ ?_
    exact k
  exact bt5_57 hw hC X22 e22 O22 N22 (by omega) (by omega) hf
def f5 (D : Hp) (ob0 : Nat) (i1 : Int32) : Option (Int32 × Hp) :=
  (gI D ob0 1 10).bind fun x1 =>
  if x1 = (-1 : Int32) then ((gI D ob0 1 13).bind fun x4 =>
  (gR D ob0 1 0).bind fun x6 =>
  (lA D x6 0).bind fun x8 =>
  if x4 = x8 then ((ck D ob0 1).bind fun u11 => (f6 D ob0).bind fun D10 =>
  b5_42 D10 ob0 i1) else (b5_42 D ob0 i1)) else ((gI D ob0 1 10).bind fun x12 =>
  (gR D ob0 1 6).bind fun x14 =>
  (rI D x14 0 x12).bind fun x16 =>
  (pV D ob0 1 10 (.int x16)).bind fun D17 =>
  b5_57 D17 ob0 i1 x12)
theorem ef_5 (m : MethodId) (n0 : Nat) (ob0 : Nat) (i1 : Int32) : entryFrame m #[(.ref (n0 + ob0)), (.int i1)] 3 = mkF m 0 #[.val (.ref (n0 + ob0)), .val (.int i1), .unset] [] := by first | (simp [entryFrame, mkF, argsToLocals, Value.category]; done) | rfl
set_option maxRecDepth 65536 in
set_option maxHeartbeats 40000000 in
theorem ct5 {l : Launch} {Z : State} {a0 : Array Value} (hw : ∀ d ∈ tables_1, d.before a0 Z = true) {n0 : Nat} {D D' : Hp} {ob0 : Nat} {i1 : Int32} {r : Int32} (hf : f5 D ob0 i1 = some (r, D')) :
    Ct Kt1 l Z (⟨"com/example/planar_drawing_kit/planardrawingkit/inspect/SweepLine", "newNode", "(I)I"⟩ : MethodName) (.code (⟨"com/example/planar_drawing_kit/planardrawingkit/inspect/SweepLine", "newNode", "(I)I"⟩ : MethodName) prog_99_method_11_code 3 (some .int)) ({ frames := 3, cells := 7, slots := 112, locals := 47 } : Room) n0 D #[(.ref (n0 + ob0)), (.int i1)] (some (.int r)) D' := by
  refine Ct.of (plainFor_of_name pn_5) ?_
  intro p e s m below meth c T0 h0 hC X0 e0 O0
  obtain ⟨hx, hZ, hby, hml, hown, hnm, hret, hlk⟩ := id hC
  have hml : c.maxLocals = 3 := hml
  have hown : s.vm.findClass "com/example/planar_drawing_kit/planardrawingkit/inspect/SweepLine" = some m.cls := hown
  have hnm : meth.name = "newNode" := hnm
  have N0 := Fr.nil n0
  refine Gl.on (fun t k => castTop (ef_5 m n0 ob0 i1) k) ?_
  rw [f5] at hf
  obtain ⟨x1, hx1, hf⟩ := own_bind hf
  obtain ⟨T2, X2, e2, st2⟩ := getF X0 hx hZ hown (host := "") (Or.inl (hw _ (List.mem_of_getElem? (i := 31) rfl))) Via.refl e0 (O0.fld (gI_e hx1) rfl rfl) (g := (mkF m 1 #[.val (.ref (n0 + ob0)), .val (.int i1), .unset] [(.ref (n0 + ob0))])) rfl rfl (hb hby d5_1)
  refine Gl.on (B := T2.setTop (mkF m 5 #[.val (.ref (n0 + ob0)), .val (.int i1), .unset] [(.int (-1 : Int32)), (.int x1)])) (fun t k => ?_) ?_
  · show Steps p.tables e below (T0.setTop (mkF m 0 #[.val (.ref (n0 + ob0)), .val (.int i1), .unset] [])) _
    refine XS.aloadN X0.here hx rfl (hb hby d5_0) rfl rfl ?_
    show Steps p.tables e below (T0.setTop (mkF m 1 #[.val (.ref (n0 + ob0)), .val (.int i1), .unset] [(.ref (n0 + ob0))])) _
    refine st2 _ ?_
    show Steps p.tables e below (T2.setTop (mkF m 4 #[.val (.ref (n0 + ob0)), .val (.int i1), .unset] [(.int x1)])) _
    refine XS.iconst X2.here hx rfl (hb hby d5_4) ?_
    exact k
  by_cases hc3 : x1 = (-1 : Int32)
  · rw [if_pos hc3] at hf
    obtain ⟨x4, hx4, hf⟩ := own_bind hf
    obtain ⟨T5, X5, e5, st5⟩ := getF X2 hx hZ hown (host := "") (Or.inl (hw _ (List.mem_of_getElem? (i := 51) rfl))) Via.refl e2 (O0.fld (gI_e hx4) rfl rfl) (g := (mkF m 27 #[.val (.ref (n0 + ob0)), .val (.int i1), .unset] [(.ref (n0 + ob0))])) rfl rfl (hb hby d5_27)
    obtain ⟨x6, hx6, hf⟩ := own_bind hf
    obtain ⟨T7, X7, e7, st7⟩ := getF X5 hx hZ hown (host := "") (Or.inl (hw _ (List.mem_of_getElem? (i := 11) rfl))) Via.refl e5 (O0.fld (gR_e hx6) rfl rfl) (g := (mkF m 31 #[.val (.ref (n0 + ob0)), .val (.int i1), .unset] [(.ref (n0 + ob0)), (.int x4)])) rfl rfl (hb hby d5_31)
    obtain ⟨x8, hx8, hf⟩ := own_bind hf
    refine Gl.on (B := T7.setTop (mkF m 35 #[.val (.ref (n0 + ob0)), .val (.int i1), .unset] [(.int x8), (.int x4)])) (fun t k => ?_) ?_
    · show Steps p.tables e below (T2.setTop (mkF m 5 #[.val (.ref (n0 + ob0)), .val (.int i1), .unset] [(.int (-1 : Int32)), (.int x1)])) _
      refine XS.icmpYes X2.here hx rfl (pc0 := 5) (pc' := 26) rfl (hb hby d5_5) rfl (teq hc3).1 (by decide) (by decide) ?_
      show Steps p.tables e below (T2.setTop (mkF m 26 #[.val (.ref (n0 + ob0)), .val (.int i1), .unset] [])) _
      refine XS.aloadN X2.here hx rfl (hb hby d5_26) rfl rfl ?_
      show Steps p.tables e below (T2.setTop (mkF m 27 #[.val (.ref (n0 + ob0)), .val (.int i1), .unset] [(.ref (n0 + ob0))])) _
      refine st5 _ ?_
      show Steps p.tables e below (T5.setTop (mkF m 30 #[.val (.ref (n0 + ob0)), .val (.int i1), .unset] [(.int x4)])) _
      refine XS.aloadN X5.here hx rfl (hb hby d5_30) rfl rfl ?_
      show Steps p.tables e below (T5.setTop (mkF m 31 #[.val (.ref (n0 + ob0)), .val (.int i1), .unset] [(.ref (n0 + ob0)), (.int x4)])) _
      refine st7 _ ?_
      show Steps p.tables e below (T7.setTop (mkF m 34 #[.val (.ref (n0 + ob0)), .val (.int i1), .unset] [(.ref (n0 + x6)), (.int x4)])) _
      refine lenW' X7 hx hZ e7 O0 hx8 (ty := .int) rfl (g := (mkF m 34 #[.val (.ref (n0 + ob0)), .val (.int i1), .unset] [(.ref (n0 + x6)), (.int x4)])) rfl rfl (hb hby d5_34) _ ?_
      exact k
    by_cases hc9 : x4 = x8
    · rw [if_pos hc9] at hf
      obtain ⟨u11, hk10, hf⟩ := own_bind hf
      obtain ⟨D10, hq10, hf⟩ := own_bind hf
      obtain ⟨T10, h10, L10, X10, e10, O10, N10, st10⟩ := callPW X7 hx hZ (y := (⟨"com/example/planar_drawing_kit/planardrawingkit/inspect/SweepLine", "grow", "()V"⟩ : MethodName)) hown (hw _ (List.mem_of_getElem? (i := 53) rfl)) (hw _ (List.mem_of_getElem? (i := 55) rfl)) (hw _ (List.mem_of_getElem? (i := 2) rfl)) (hw _ (List.mem_of_getElem? (i := 54) rfl)) (hw _ (List.mem_of_getElem? (i := 3) rfl)) (hw _ (List.mem_of_getElem? (i := 56) rfl)) (by decide) e7 O0 N0 hk10 rfl (as' := []) (ct6 hw hq10) (W := 0) (kc := 7) (ks := 112) rfl rfl (by decide) (by decide) (g := (mkF m 39 #[.val (.ref (n0 + ob0)), .val (.int i1), .unset] [(.ref (n0 + ob0))])) rfl (by rw [hml]; rfl) (rest := []) (lenOf pd_3 rfl) rfl (by show 2 * 0 + _ ≤ _; exact Nat.le_of_eq rfl) (hb hby d5_39) (by show _ + 7 ≤ 7; omega) (by show _ + 112 ≤ 112; omega)
      refine Gl.on (B := T10.setTop (mkF m 42 #[.val (.ref (n0 + ob0)), .val (.int i1), .unset] [])) (fun t k => ?_) ?_
      · show Steps p.tables e below (T7.setTop (mkF m 35 #[.val (.ref (n0 + ob0)), .val (.int i1), .unset] [(.int x8), (.int x4)])) _
        refine XS.icmpNo X7.here hx rfl (hb hby d5_35) rfl (teq hc9).2 ?_
        show Steps p.tables e below (T7.setTop (mkF m 38 #[.val (.ref (n0 + ob0)), .val (.int i1), .unset] [])) _
        refine XS.aloadN X7.here hx rfl (hb hby d5_38) rfl rfl ?_
        show Steps p.tables e below (T7.setTop (mkF m 39 #[.val (.ref (n0 + ob0)), .val (.int i1), .unset] [(.ref (n0 + ob0))])) _
        refine st10 _ ?_
        exact k
      exact bt5_42 hw hC X10 e10 O10 N10 (by omega) (by omega) hf
    · rw [if_neg hc9] at hf
      refine Gl.on (B := T7.setTop (mkF m 42 #[.val (.ref (n0 + ob0)), .val (.int i1), .unset] [])) (fun t k => ?_) ?_
      · show Steps p.tables e below (T7.setTop (mkF m 35 #[.val (.ref (n0 + ob0)), .val (.int i1), .unset] [(.int x8), (.int x4)])) _
        refine XS.icmpYes X7.here hx rfl (pc0 := 35) (pc' := 42) rfl (hb hby d5_35) rfl (feq hc9).2 (by decide) (by decide) ?_
        exact k
      exact bt5_42 hw hC X7 e7 O0 N0 (by omega) (by omega) hf
  · rw [if_neg hc3] at hf
    obtain ⟨x12, hx12, hf⟩ := own_bind hf
    obtain ⟨T13, X13, e13, st13⟩ := getF X2 hx hZ hown (host := "") (Or.inl (hw _ (List.mem_of_getElem? (i := 31) rfl))) Via.refl e2 (O0.fld (gI_e hx12) rfl rfl) (g := (mkF m 9 #[.val (.ref (n0 + ob0)), .val (.int i1), .unset] [(.ref (n0 + ob0))])) rfl rfl (hb hby d5_9)
    obtain ⟨x14, hx14, hf⟩ := own_bind hf
    obtain ⟨T15, X15, e15, st15⟩ := getF X13 hx hZ hown (host := "") (Or.inl (hw _ (List.mem_of_getElem? (i := 23) rfl))) Via.refl e13 (O0.fld (gR_e hx14) rfl rfl) (g := (mkF m 15 #[.val (.ref (n0 + ob0)), .val (.int i1), .val (.int x12)] [(.ref (n0 + ob0)), (.ref (n0 + ob0))])) rfl rfl (hb hby d5_15)
    obtain ⟨x16, hx16, hf⟩ := own_bind hf
    obtain ⟨D17, hq17, hf⟩ := own_bind hf
    obtain ⟨T17, h17, L17, X17, e17, O17, N17, st17⟩ := putW X15 hx hZ hown (hw _ (List.mem_of_getElem? (i := 31) rfl)) (lay1 hw) e15 O0 N0 hq17 rfl rfl (Or.inl (hw _ (List.mem_of_getElem? (i := 32) rfl))) (hw _ (List.mem_of_getElem? (i := 2) rfl)) (ty := .int) (by decide) rfl rfl (g := (mkF m 20 #[.val (.ref (n0 + ob0)), .val (.int i1), .val (.int x12)] [(.int x16), (.ref (n0 + ob0))])) rfl rfl (hb hby d5_20)
    refine Gl.on (B := T17.setTop (mkF m 57 #[.val (.ref (n0 + ob0)), .val (.int i1), .val (.int x12)] [])) (fun t k => ?_) ?_
    · show Steps p.tables e below (T2.setTop (mkF m 5 #[.val (.ref (n0 + ob0)), .val (.int i1), .unset] [(.int (-1 : Int32)), (.int x1)])) _
      refine XS.icmpNo X2.here hx rfl (hb hby d5_5) rfl (feq hc3).1 ?_
      show Steps p.tables e below (T2.setTop (mkF m 8 #[.val (.ref (n0 + ob0)), .val (.int i1), .unset] [])) _
      refine XS.aloadN X2.here hx rfl (hb hby d5_8) rfl rfl ?_
      show Steps p.tables e below (T2.setTop (mkF m 9 #[.val (.ref (n0 + ob0)), .val (.int i1), .unset] [(.ref (n0 + ob0))])) _
      refine st13 _ ?_
      show Steps p.tables e below (T13.setTop (mkF m 12 #[.val (.ref (n0 + ob0)), .val (.int i1), .unset] [(.int x12)])) _
      refine XS.istoreN X13.here hx rfl (hb hby d5_12) rfl (l' := #[.val (.ref (n0 + ob0)), .val (.int i1), .val (.int x12)]) rfl ?_
      show Steps p.tables e below (T13.setTop (mkF m 13 #[.val (.ref (n0 + ob0)), .val (.int i1), .val (.int x12)] [])) _
      refine XS.aloadN X13.here hx rfl (hb hby d5_13) rfl rfl ?_
      show Steps p.tables e below (T13.setTop (mkF m 14 #[.val (.ref (n0 + ob0)), .val (.int i1), .val (.int x12)] [(.ref (n0 + ob0))])) _
      refine XS.aloadN X13.here hx rfl (hb hby d5_14) rfl rfl ?_
      show Steps p.tables e below (T13.setTop (mkF m 15 #[.val (.ref (n0 + ob0)), .val (.int i1), .val (.int x12)] [(.ref (n0 + ob0)), (.ref (n0 + ob0))])) _
      refine st15 _ ?_
      show Steps p.tables e below (T15.setTop (mkF m 18 #[.val (.ref (n0 + ob0)), .val (.int i1), .val (.int x12)] [(.ref (n0 + x14)), (.ref (n0 + ob0))])) _
      refine XS.iloadN X15.here hx rfl (hb hby d5_18) rfl ?_
      show Steps p.tables e below (T15.setTop (mkF m 19 #[.val (.ref (n0 + ob0)), .val (.int i1), .val (.int x12)] [(.int x12), (.ref (n0 + x14)), (.ref (n0 + ob0))])) _
      refine ldW X15 hx hZ e15 O0 hx16 rfl (g := (mkF m 19 #[.val (.ref (n0 + ob0)), .val (.int i1), .val (.int x12)] [(.int x12), (.ref (n0 + x14)), (.ref (n0 + ob0))])) rfl rfl (hb hby d5_19) _ ?_
      show Steps p.tables e below (T15.setTop (mkF m 20 #[.val (.ref (n0 + ob0)), .val (.int i1), .val (.int x12)] [(.int x16), (.ref (n0 + ob0))])) _
      refine st17 _ ?_
      show Steps p.tables e below (T17.setTop (mkF m 23 #[.val (.ref (n0 + ob0)), .val (.int i1), .val (.int x12)] [])) _
      refine XS.goto X17.here hx rfl (pc0 := 23) (pc' := 57) rfl (hb hby d5_23) (by decide) (by decide) ?_
      exact k
    exact bt5_57 hw hC X17 e17 O17 N17 (by omega) (by omega) hf
theorem d11_0 : decode prog_99_method_14_code 0 = .ok (.iload_n 1, 1) := by decide +kernel
theorem d11_1 : decode prog_99_method_14_code 1 = .ok (.iconst (-1), 1) := by decide +kernel
theorem d11_2 : decode prog_99_method_14_code 2 = .ok (.if_icmp .ne 11, 3) := by decide +kernel
theorem d11_5 : decode prog_99_method_14_code 5 = .ok (.aload_n 0, 1) := by decide +kernel
theorem d11_6 : decode prog_99_method_14_code 6 = .ok (.iload_n 3, 1) := by decide +kernel
theorem d11_7 : decode prog_99_method_14_code 7 = .ok (.putfield 31, 3) := by decide +kernel
theorem d11_10 : decode prog_99_method_14_code 10 = .ok (.goto 30, 3) := by decide +kernel
theorem d11_13 : decode prog_99_method_14_code 13 = .ok (.aload_n 0, 1) := by decide +kernel
theorem d11_14 : decode prog_99_method_14_code 14 = .ok (.getfield 13, 3) := by decide +kernel
theorem d11_17 : decode prog_99_method_14_code 17 = .ok (.iload_n 1, 1) := by decide +kernel
theorem d11_18 : decode prog_99_method_14_code 18 = .ok (.iaload, 1) := by decide +kernel
theorem d11_19 : decode prog_99_method_14_code 19 = .ok (.iload_n 2, 1) := by decide +kernel
theorem d11_20 : decode prog_99_method_14_code 20 = .ok (.if_icmp .ne 13, 3) := by decide +kernel
theorem d11_23 : decode prog_99_method_14_code 23 = .ok (.aload_n 0, 1) := by decide +kernel
theorem d11_24 : decode prog_99_method_14_code 24 = .ok (.getfield 13, 3) := by decide +kernel
theorem d11_27 : decode prog_99_method_14_code 27 = .ok (.iload_n 1, 1) := by decide +kernel
theorem d11_28 : decode prog_99_method_14_code 28 = .ok (.iload_n 3, 1) := by decide +kernel
theorem d11_29 : decode prog_99_method_14_code 29 = .ok (.iastore, 1) := by decide +kernel
theorem d11_30 : decode prog_99_method_14_code 30 = .ok (.goto 10, 3) := by decide +kernel
theorem d11_33 : decode prog_99_method_14_code 33 = .ok (.aload_n 0, 1) := by decide +kernel
theorem d11_34 : decode prog_99_method_14_code 34 = .ok (.getfield 16, 3) := by decide +kernel
theorem d11_37 : decode prog_99_method_14_code 37 = .ok (.iload_n 1, 1) := by decide +kernel
theorem d11_38 : decode prog_99_method_14_code 38 = .ok (.iload_n 3, 1) := by decide +kernel
theorem d11_39 : decode prog_99_method_14_code 39 = .ok (.iastore, 1) := by decide +kernel
theorem d11_40 : decode prog_99_method_14_code 40 = .ok (.return_, 1) := by decide +kernel
theorem pn_11 : plainName "com/example/planar_drawing_kit/planardrawingkit/inspect/SweepLine" = true := by first | (simp [plainName, overriddenIn]; done) | decide +kernel
def f11 (D : Hp) (ob0 : Nat) (i1 : Int32) (i2 : Int32) (i3 : Int32) : Option (Hp) :=
  if i1 = (-1 : Int32) then ((pV D ob0 1 7 (.int i3)).bind fun D2 =>
  some D2) else ((gR D ob0 1 1).bind fun x3 =>
  (rI D x3 0 i1).bind fun x5 =>
  if x5 = i2 then ((gR D ob0 1 1).bind fun x7 =>
  (wV D x7 0 i1 (.int i3)).bind fun D9 =>
  some D9) else ((gR D ob0 1 2).bind fun x10 =>
  (wV D x10 0 i1 (.int i3)).bind fun D12 =>
  some D12))
theorem ef_11 (m : MethodId) (n0 : Nat) (ob0 : Nat) (i1 : Int32) (i2 : Int32) (i3 : Int32) : entryFrame m #[(.ref (n0 + ob0)), (.int i1), (.int i2), (.int i3)] 4 = mkF m 0 #[.val (.ref (n0 + ob0)), .val (.int i1), .val (.int i2), .val (.int i3)] [] := by first | (simp [entryFrame, mkF, argsToLocals, Value.category]; done) | rfl
set_option maxRecDepth 65536 in
set_option maxHeartbeats 40000000 in
theorem ct11 {l : Launch} {Z : State} {a0 : Array Value} (hw : ∀ d ∈ tables_1, d.before a0 Z = true) {n0 : Nat} {D D' : Hp} {ob0 : Nat} {i1 : Int32} {i2 : Int32} {i3 : Int32} (hf : f11 D ob0 i1 i2 i3 = some D') :
    Ct Kt1 l Z (⟨"com/example/planar_drawing_kit/planardrawingkit/inspect/SweepLine", "replaceChild", "(III)V"⟩ : MethodName) (.code (⟨"com/example/planar_drawing_kit/planardrawingkit/inspect/SweepLine", "replaceChild", "(III)V"⟩ : MethodName) prog_99_method_14_code 4 none) ({ frames := 0, cells := 0, slots := 0, locals := 0 } : Room) n0 D #[(.ref (n0 + ob0)), (.int i1), (.int i2), (.int i3)] none D' := by
  refine Ct.of (plainFor_of_name pn_11) ?_
  intro p e s m below meth c T0 h0 hC X0 e0 O0
  obtain ⟨hx, hZ, hby, hml, hown, hnm, hret, hlk⟩ := id hC
  have hml : c.maxLocals = 4 := hml
  have hown : s.vm.findClass "com/example/planar_drawing_kit/planardrawingkit/inspect/SweepLine" = some m.cls := hown
  have hnm : meth.name = "replaceChild" := hnm
  have N0 := Fr.nil n0
  refine Gl.on (fun t k => castTop (ef_11 m n0 ob0 i1 i2 i3) k) ?_
  rw [f11] at hf
  refine Gl.on (B := T0.setTop (mkF m 2 #[.val (.ref (n0 + ob0)), .val (.int i1), .val (.int i2), .val (.int i3)] [(.int (-1 : Int32)), (.int i1)])) (fun t k => ?_) ?_
  · show Steps p.tables e below (T0.setTop (mkF m 0 #[.val (.ref (n0 + ob0)), .val (.int i1), .val (.int i2), .val (.int i3)] [])) _
    refine XS.iloadN X0.here hx rfl (hb hby d11_0) rfl ?_
    show Steps p.tables e below (T0.setTop (mkF m 1 #[.val (.ref (n0 + ob0)), .val (.int i1), .val (.int i2), .val (.int i3)] [(.int i1)])) _
    refine XS.iconst X0.here hx rfl (hb hby d11_1) ?_
    exact k
  by_cases hc1 : i1 = (-1 : Int32)
  · rw [if_pos hc1] at hf
    obtain ⟨D2, hq2, hf⟩ := own_bind hf
    obtain ⟨T2, h2, L2, X2, e2, O2, N2, st2⟩ := putW X0 hx hZ hown (hw _ (List.mem_of_getElem? (i := 25) rfl)) (lay1 hw) e0 O0 N0 hq2 rfl rfl (Or.inl (hw _ (List.mem_of_getElem? (i := 26) rfl))) (hw _ (List.mem_of_getElem? (i := 2) rfl)) (ty := .int) (by decide) rfl rfl (g := (mkF m 7 #[.val (.ref (n0 + ob0)), .val (.int i1), .val (.int i2), .val (.int i3)] [(.int i3), (.ref (n0 + ob0))])) rfl rfl (hb hby d11_7)
    refine Gl.on (B := T2.setTop (mkF m 40 #[.val (.ref (n0 + ob0)), .val (.int i1), .val (.int i2), .val (.int i3)] [])) (fun t k => ?_) ?_
    · show Steps p.tables e below (T0.setTop (mkF m 2 #[.val (.ref (n0 + ob0)), .val (.int i1), .val (.int i2), .val (.int i3)] [(.int (-1 : Int32)), (.int i1)])) _
      refine XS.icmpNo X0.here hx rfl (hb hby d11_2) rfl (teq hc1).2 ?_
      show Steps p.tables e below (T0.setTop (mkF m 5 #[.val (.ref (n0 + ob0)), .val (.int i1), .val (.int i2), .val (.int i3)] [])) _
      refine XS.aloadN X0.here hx rfl (hb hby d11_5) rfl rfl ?_
      show Steps p.tables e below (T0.setTop (mkF m 6 #[.val (.ref (n0 + ob0)), .val (.int i1), .val (.int i2), .val (.int i3)] [(.ref (n0 + ob0))])) _
      refine XS.iloadN X0.here hx rfl (hb hby d11_6) rfl ?_
      show Steps p.tables e below (T0.setTop (mkF m 7 #[.val (.ref (n0 + ob0)), .val (.int i1), .val (.int i2), .val (.int i3)] [(.int i3), (.ref (n0 + ob0))])) _
      refine st2 _ ?_
      show Steps p.tables e below (T2.setTop (mkF m 10 #[.val (.ref (n0 + ob0)), .val (.int i1), .val (.int i2), .val (.int i3)] [])) _
      refine XS.goto X2.here hx rfl (pc0 := 10) (pc' := 40) rfl (hb hby d11_10) (by decide) (by decide) ?_
      exact k
    obtain rfl := own_inj1 hf
    exact Gl.outV X2 hx hlk hret (hb hby d11_40) ⟨rfl, N2, by rw [e2]; exact O2⟩ (by show _ ≤ 0; omega) (by show _ ≤ 0; omega)
  · rw [if_neg hc1] at hf
    obtain ⟨x3, hx3, hf⟩ := own_bind hf
    obtain ⟨T4, X4, e4, st4⟩ := getF X0 hx hZ hown (host := "") (Or.inl (hw _ (List.mem_of_getElem? (i := 13) rfl))) Via.refl e0 (O0.fld (gR_e hx3) rfl rfl) (g := (mkF m 14 #[.val (.ref (n0 + ob0)), .val (.int i1), .val (.int i2), .val (.int i3)] [(.ref (n0 + ob0))])) rfl rfl (hb hby d11_14)
    obtain ⟨x5, hx5, hf⟩ := own_bind hf
    refine Gl.on (B := T4.setTop (mkF m 20 #[.val (.ref (n0 + ob0)), .val (.int i1), .val (.int i2), .val (.int i3)] [(.int i2), (.int x5)])) (fun t k => ?_) ?_
    · show Steps p.tables e below (T0.setTop (mkF m 2 #[.val (.ref (n0 + ob0)), .val (.int i1), .val (.int i2), .val (.int i3)] [(.int (-1 : Int32)), (.int i1)])) _
      refine XS.icmpYes X0.here hx rfl (pc0 := 2) (pc' := 13) rfl (hb hby d11_2) rfl (feq hc1).2 (by decide) (by decide) ?_
      show Steps p.tables e below (T0.setTop (mkF m 13 #[.val (.ref (n0 + ob0)), .val (.int i1), .val (.int i2), .val (.int i3)] [])) _
      refine XS.aloadN X0.here hx rfl (hb hby d11_13) rfl rfl ?_
      show Steps p.tables e below (T0.setTop (mkF m 14 #[.val (.ref (n0 + ob0)), .val (.int i1), .val (.int i2), .val (.int i3)] [(.ref (n0 + ob0))])) _
      refine st4 _ ?_
      show Steps p.tables e below (T4.setTop (mkF m 17 #[.val (.ref (n0 + ob0)), .val (.int i1), .val (.int i2), .val (.int i3)] [(.ref (n0 + x3))])) _
      refine XS.iloadN X4.here hx rfl (hb hby d11_17) rfl ?_
      show Steps p.tables e below (T4.setTop (mkF m 18 #[.val (.ref (n0 + ob0)), .val (.int i1), .val (.int i2), .val (.int i3)] [(.int i1), (.ref (n0 + x3))])) _
      refine ldW X4 hx hZ e4 O0 hx5 rfl (g := (mkF m 18 #[.val (.ref (n0 + ob0)), .val (.int i1), .val (.int i2), .val (.int i3)] [(.int i1), (.ref (n0 + x3))])) rfl rfl (hb hby d11_18) _ ?_
      show Steps p.tables e below (T4.setTop (mkF m 19 #[.val (.ref (n0 + ob0)), .val (.int i1), .val (.int i2), .val (.int i3)] [(.int x5)])) _
      refine XS.iloadN X4.here hx rfl (hb hby d11_19) rfl ?_
      exact k
    by_cases hc6 : x5 = i2
    · rw [if_pos hc6] at hf
      obtain ⟨x7, hx7, hf⟩ := own_bind hf
      obtain ⟨T8, X8, e8, st8⟩ := getF X4 hx hZ hown (host := "") (Or.inl (hw _ (List.mem_of_getElem? (i := 13) rfl))) Via.refl e4 (O0.fld (gR_e hx7) rfl rfl) (g := (mkF m 24 #[.val (.ref (n0 + ob0)), .val (.int i1), .val (.int i2), .val (.int i3)] [(.ref (n0 + ob0))])) rfl rfl (hb hby d11_24)
      obtain ⟨D9, hq9, hf⟩ := own_bind hf
      obtain ⟨T9, h9, L9, X9, e9, O9, N9, st9⟩ := stIW X8 hx hZ e8 O0 N0 hq9 rfl (g := (mkF m 29 #[.val (.ref (n0 + ob0)), .val (.int i1), .val (.int i2), .val (.int i3)] [(.int i3), (.int i1), (.ref (n0 + x7))])) rfl rfl (hb hby d11_29)
      refine Gl.on (B := T9.setTop (mkF m 40 #[.val (.ref (n0 + ob0)), .val (.int i1), .val (.int i2), .val (.int i3)] [])) (fun t k => ?_) ?_
      · show Steps p.tables e below (T4.setTop (mkF m 20 #[.val (.ref (n0 + ob0)), .val (.int i1), .val (.int i2), .val (.int i3)] [(.int i2), (.int x5)])) _
        refine XS.icmpNo X4.here hx rfl (hb hby d11_20) rfl (teq hc6).2 ?_
        show Steps p.tables e below (T4.setTop (mkF m 23 #[.val (.ref (n0 + ob0)), .val (.int i1), .val (.int i2), .val (.int i3)] [])) _
        refine XS.aloadN X4.here hx rfl (hb hby d11_23) rfl rfl ?_
        show Steps p.tables e below (T4.setTop (mkF m 24 #[.val (.ref (n0 + ob0)), .val (.int i1), .val (.int i2), .val (.int i3)] [(.ref (n0 + ob0))])) _
        refine st8 _ ?_
        show Steps p.tables e below (T8.setTop (mkF m 27 #[.val (.ref (n0 + ob0)), .val (.int i1), .val (.int i2), .val (.int i3)] [(.ref (n0 + x7))])) _
        refine XS.iloadN X8.here hx rfl (hb hby d11_27) rfl ?_
        show Steps p.tables e below (T8.setTop (mkF m 28 #[.val (.ref (n0 + ob0)), .val (.int i1), .val (.int i2), .val (.int i3)] [(.int i1), (.ref (n0 + x7))])) _
        refine XS.iloadN X8.here hx rfl (hb hby d11_28) rfl ?_
        show Steps p.tables e below (T8.setTop (mkF m 29 #[.val (.ref (n0 + ob0)), .val (.int i1), .val (.int i2), .val (.int i3)] [(.int i3), (.int i1), (.ref (n0 + x7))])) _
        refine st9 _ ?_
        show Steps p.tables e below (T9.setTop (mkF m 30 #[.val (.ref (n0 + ob0)), .val (.int i1), .val (.int i2), .val (.int i3)] [])) _
        refine XS.goto X9.here hx rfl (pc0 := 30) (pc' := 40) rfl (hb hby d11_30) (by decide) (by decide) ?_
        exact k
      obtain rfl := own_inj1 hf
      exact Gl.outV X9 hx hlk hret (hb hby d11_40) ⟨rfl, N9, by rw [e9]; exact O9⟩ (by show _ ≤ 0; omega) (by show _ ≤ 0; omega)
    · rw [if_neg hc6] at hf
      obtain ⟨x10, hx10, hf⟩ := own_bind hf
      obtain ⟨T11, X11, e11, st11⟩ := getF X4 hx hZ hown (host := "") (Or.inl (hw _ (List.mem_of_getElem? (i := 15) rfl))) Via.refl e4 (O0.fld (gR_e hx10) rfl rfl) (g := (mkF m 34 #[.val (.ref (n0 + ob0)), .val (.int i1), .val (.int i2), .val (.int i3)] [(.ref (n0 + ob0))])) rfl rfl (hb hby d11_34)
      obtain ⟨D12, hq12, hf⟩ := own_bind hf
      obtain ⟨T12, h12, L12, X12, e12, O12, N12, st12⟩ := stIW X11 hx hZ e11 O0 N0 hq12 rfl (g := (mkF m 39 #[.val (.ref (n0 + ob0)), .val (.int i1), .val (.int i2), .val (.int i3)] [(.int i3), (.int i1), (.ref (n0 + x10))])) rfl rfl (hb hby d11_39)
      refine Gl.on (B := T12.setTop (mkF m 40 #[.val (.ref (n0 + ob0)), .val (.int i1), .val (.int i2), .val (.int i3)] [])) (fun t k => ?_) ?_
      · show Steps p.tables e below (T4.setTop (mkF m 20 #[.val (.ref (n0 + ob0)), .val (.int i1), .val (.int i2), .val (.int i3)] [(.int i2), (.int x5)])) _
        refine XS.icmpYes X4.here hx rfl (pc0 := 20) (pc' := 33) rfl (hb hby d11_20) rfl (feq hc6).2 (by decide) (by decide) ?_
        show Steps p.tables e below (T4.setTop (mkF m 33 #[.val (.ref (n0 + ob0)), .val (.int i1), .val (.int i2), .val (.int i3)] [])) _
        refine XS.aloadN X4.here hx rfl (hb hby d11_33) rfl rfl ?_
        show Steps p.tables e below (T4.setTop (mkF m 34 #[.val (.ref (n0 + ob0)), .val (.int i1), .val (.int i2), .val (.int i3)] [(.ref (n0 + ob0))])) _
        refine st11 _ ?_
        show Steps p.tables e below (T11.setTop (mkF m 37 #[.val (.ref (n0 + ob0)), .val (.int i1), .val (.int i2), .val (.int i3)] [(.ref (n0 + x10))])) _
        refine XS.iloadN X11.here hx rfl (hb hby d11_37) rfl ?_
        show Steps p.tables e below (T11.setTop (mkF m 38 #[.val (.ref (n0 + ob0)), .val (.int i1), .val (.int i2), .val (.int i3)] [(.int i1), (.ref (n0 + x10))])) _
        refine XS.iloadN X11.here hx rfl (hb hby d11_38) rfl ?_
        show Steps p.tables e below (T11.setTop (mkF m 39 #[.val (.ref (n0 + ob0)), .val (.int i1), .val (.int i2), .val (.int i3)] [(.int i3), (.int i1), (.ref (n0 + x10))])) _
        refine st12 _ ?_
        exact k
      obtain rfl := own_inj1 hf
      exact Gl.outV X12 hx hlk hret (hb hby d11_40) ⟨rfl, N12, by rw [e12]; exact O12⟩ (by show _ ≤ 0; omega) (by show _ ≤ 0; omega)
theorem pd_4 : parseMethodDescriptor "(III)V" = some ⟨[.int, .int, .int], none⟩ := by decide +kernel
theorem d10_0 : decode prog_99_method_13_code 0 = .ok (.aload_n 0, 1) := by decide +kernel
theorem d10_1 : decode prog_99_method_13_code 1 = .ok (.getfield 19, 3) := by decide +kernel
theorem d10_4 : decode prog_99_method_13_code 4 = .ok (.iload_n 1, 1) := by decide +kernel
theorem d10_5 : decode prog_99_method_13_code 5 = .ok (.iaload, 1) := by decide +kernel
theorem d10_6 : decode prog_99_method_13_code 6 = .ok (.istore_n 2, 1) := by decide +kernel
theorem d10_7 : decode prog_99_method_13_code 7 = .ok (.aload_n 0, 1) := by decide +kernel
theorem d10_8 : decode prog_99_method_13_code 8 = .ok (.getfield 19, 3) := by decide +kernel
theorem d10_11 : decode prog_99_method_13_code 11 = .ok (.iload_n 2, 1) := by decide +kernel
theorem d10_12 : decode prog_99_method_13_code 12 = .ok (.iaload, 1) := by decide +kernel
theorem d10_13 : decode prog_99_method_13_code 13 = .ok (.istore_n 3, 1) := by decide +kernel
theorem d10_14 : decode prog_99_method_13_code 14 = .ok (.aload_n 0, 1) := by decide +kernel
theorem d10_15 : decode prog_99_method_13_code 15 = .ok (.getfield 13, 3) := by decide +kernel
theorem d10_18 : decode prog_99_method_13_code 18 = .ok (.iload_n 2, 1) := by decide +kernel
theorem d10_19 : decode prog_99_method_13_code 19 = .ok (.iaload, 1) := by decide +kernel
theorem d10_20 : decode prog_99_method_13_code 20 = .ok (.iload_n 1, 1) := by decide +kernel
theorem d10_21 : decode prog_99_method_13_code 21 = .ok (.if_icmp .ne 47, 3) := by decide +kernel
theorem d10_24 : decode prog_99_method_13_code 24 = .ok (.aload_n 0, 1) := by decide +kernel
theorem d10_25 : decode prog_99_method_13_code 25 = .ok (.getfield 13, 3) := by decide +kernel
theorem d10_28 : decode prog_99_method_13_code 28 = .ok (.iload_n 2, 1) := by decide +kernel
theorem d10_29 : decode prog_99_method_13_code 29 = .ok (.aload_n 0, 1) := by decide +kernel
theorem d10_30 : decode prog_99_method_13_code 30 = .ok (.getfield 16, 3) := by decide +kernel
theorem d10_33 : decode prog_99_method_13_code 33 = .ok (.iload_n 1, 1) := by decide +kernel
theorem d10_34 : decode prog_99_method_13_code 34 = .ok (.iaload, 1) := by decide +kernel
theorem d10_35 : decode prog_99_method_13_code 35 = .ok (.iastore, 1) := by decide +kernel
theorem d10_36 : decode prog_99_method_13_code 36 = .ok (.aload_n 0, 1) := by decide +kernel
theorem d10_37 : decode prog_99_method_13_code 37 = .ok (.getfield 16, 3) := by decide +kernel
theorem d10_40 : decode prog_99_method_13_code 40 = .ok (.iload_n 1, 1) := by decide +kernel
theorem d10_41 : decode prog_99_method_13_code 41 = .ok (.iaload, 1) := by decide +kernel
theorem d10_42 : decode prog_99_method_13_code 42 = .ok (.iconst (-1), 1) := by decide +kernel
theorem d10_43 : decode prog_99_method_13_code 43 = .ok (.if_icmp .eq 15, 3) := by decide +kernel
theorem d10_46 : decode prog_99_method_13_code 46 = .ok (.aload_n 0, 1) := by decide +kernel
theorem d10_47 : decode prog_99_method_13_code 47 = .ok (.getfield 19, 3) := by decide +kernel
theorem d10_50 : decode prog_99_method_13_code 50 = .ok (.aload_n 0, 1) := by decide +kernel
theorem d10_51 : decode prog_99_method_13_code 51 = .ok (.getfield 16, 3) := by decide +kernel
theorem d10_54 : decode prog_99_method_13_code 54 = .ok (.iload_n 1, 1) := by decide +kernel
theorem d10_55 : decode prog_99_method_13_code 55 = .ok (.iaload, 1) := by decide +kernel
theorem d10_56 : decode prog_99_method_13_code 56 = .ok (.iload_n 2, 1) := by decide +kernel
theorem d10_57 : decode prog_99_method_13_code 57 = .ok (.iastore, 1) := by decide +kernel
theorem d10_58 : decode prog_99_method_13_code 58 = .ok (.aload_n 0, 1) := by decide +kernel
theorem d10_59 : decode prog_99_method_13_code 59 = .ok (.getfield 16, 3) := by decide +kernel
theorem d10_62 : decode prog_99_method_13_code 62 = .ok (.iload_n 1, 1) := by decide +kernel
theorem d10_63 : decode prog_99_method_13_code 63 = .ok (.iload_n 2, 1) := by decide +kernel
theorem d10_64 : decode prog_99_method_13_code 64 = .ok (.iastore, 1) := by decide +kernel
theorem d10_65 : decode prog_99_method_13_code 65 = .ok (.goto 44, 3) := by decide +kernel
theorem d10_68 : decode prog_99_method_13_code 68 = .ok (.aload_n 0, 1) := by decide +kernel
theorem d10_69 : decode prog_99_method_13_code 69 = .ok (.getfield 16, 3) := by decide +kernel
theorem d10_72 : decode prog_99_method_13_code 72 = .ok (.iload_n 2, 1) := by decide +kernel
theorem d10_73 : decode prog_99_method_13_code 73 = .ok (.aload_n 0, 1) := by decide +kernel
theorem d10_74 : decode prog_99_method_13_code 74 = .ok (.getfield 13, 3) := by decide +kernel
theorem d10_77 : decode prog_99_method_13_code 77 = .ok (.iload_n 1, 1) := by decide +kernel
theorem d10_78 : decode prog_99_method_13_code 78 = .ok (.iaload, 1) := by decide +kernel
theorem d10_79 : decode prog_99_method_13_code 79 = .ok (.iastore, 1) := by decide +kernel
theorem d10_80 : decode prog_99_method_13_code 80 = .ok (.aload_n 0, 1) := by decide +kernel
theorem d10_81 : decode prog_99_method_13_code 81 = .ok (.getfield 13, 3) := by decide +kernel
theorem d10_84 : decode prog_99_method_13_code 84 = .ok (.iload_n 1, 1) := by decide +kernel
theorem d10_85 : decode prog_99_method_13_code 85 = .ok (.iaload, 1) := by decide +kernel
theorem d10_86 : decode prog_99_method_13_code 86 = .ok (.iconst (-1), 1) := by decide +kernel
theorem d10_87 : decode prog_99_method_13_code 87 = .ok (.if_icmp .eq 15, 3) := by decide +kernel
theorem d10_90 : decode prog_99_method_13_code 90 = .ok (.aload_n 0, 1) := by decide +kernel
theorem d10_91 : decode prog_99_method_13_code 91 = .ok (.getfield 19, 3) := by decide +kernel
theorem d10_94 : decode prog_99_method_13_code 94 = .ok (.aload_n 0, 1) := by decide +kernel
theorem d10_95 : decode prog_99_method_13_code 95 = .ok (.getfield 13, 3) := by decide +kernel
theorem d10_98 : decode prog_99_method_13_code 98 = .ok (.iload_n 1, 1) := by decide +kernel
theorem d10_99 : decode prog_99_method_13_code 99 = .ok (.iaload, 1) := by decide +kernel
theorem d10_100 : decode prog_99_method_13_code 100 = .ok (.iload_n 2, 1) := by decide +kernel
theorem d10_101 : decode prog_99_method_13_code 101 = .ok (.iastore, 1) := by decide +kernel
theorem d10_102 : decode prog_99_method_13_code 102 = .ok (.aload_n 0, 1) := by decide +kernel
theorem d10_103 : decode prog_99_method_13_code 103 = .ok (.getfield 13, 3) := by decide +kernel
theorem d10_106 : decode prog_99_method_13_code 106 = .ok (.iload_n 1, 1) := by decide +kernel
theorem d10_107 : decode prog_99_method_13_code 107 = .ok (.iload_n 2, 1) := by decide +kernel
theorem d10_108 : decode prog_99_method_13_code 108 = .ok (.iastore, 1) := by decide +kernel
theorem d10_109 : decode prog_99_method_13_code 109 = .ok (.aload_n 0, 1) := by decide +kernel
theorem d10_110 : decode prog_99_method_13_code 110 = .ok (.getfield 19, 3) := by decide +kernel
theorem d10_113 : decode prog_99_method_13_code 113 = .ok (.iload_n 2, 1) := by decide +kernel
theorem d10_114 : decode prog_99_method_13_code 114 = .ok (.iload_n 1, 1) := by decide +kernel
theorem d10_115 : decode prog_99_method_13_code 115 = .ok (.iastore, 1) := by decide +kernel
theorem d10_116 : decode prog_99_method_13_code 116 = .ok (.aload_n 0, 1) := by decide +kernel
theorem d10_117 : decode prog_99_method_13_code 117 = .ok (.getfield 19, 3) := by decide +kernel
theorem d10_120 : decode prog_99_method_13_code 120 = .ok (.iload_n 1, 1) := by decide +kernel
theorem d10_121 : decode prog_99_method_13_code 121 = .ok (.iload_n 3, 1) := by decide +kernel
theorem d10_122 : decode prog_99_method_13_code 122 = .ok (.iastore, 1) := by decide +kernel
theorem d10_123 : decode prog_99_method_13_code 123 = .ok (.aload_n 0, 1) := by decide +kernel
theorem d10_124 : decode prog_99_method_13_code 124 = .ok (.iload_n 3, 1) := by decide +kernel
theorem d10_125 : decode prog_99_method_13_code 125 = .ok (.iload_n 2, 1) := by decide +kernel
theorem d10_126 : decode prog_99_method_13_code 126 = .ok (.iload_n 1, 1) := by decide +kernel
theorem d10_127 : decode prog_99_method_13_code 127 = .ok (.invokevirtual 74, 3) := by decide +kernel
theorem d10_130 : decode prog_99_method_13_code 130 = .ok (.return_, 1) := by decide +kernel
theorem pn_10 : plainName "com/example/planar_drawing_kit/planardrawingkit/inspect/SweepLine" = true := by first | (simp [plainName, overriddenIn]; done) | decide +kernel
def b10_109 (D : Hp) (ob0 : Nat) (i1 : Int32) (i2 : Int32) (i3 : Int32) : Option (Hp) :=
  (gR D ob0 1 3).bind fun x49 =>
  (wV D x49 0 i2 (.int i1)).bind fun D51 =>
  (gR D51 ob0 1 3).bind fun x52 =>
  (wV D51 x52 0 i1 (.int i3)).bind fun D54 =>
  (ck D54 ob0 1).bind fun u56 => (f11 D54 ob0 i3 i2 i1).bind fun D55 =>
  some D55
set_option maxRecDepth 65536 in
set_option maxHeartbeats 40000000 in
theorem bt10_109 {p : Program} {l : Launch} {e : Env} {s : State} {m : MethodId} {args : Array Value} {below : List Frame} {meth : Method} {c : Code} {Z : State} {a0 : Array Value} {n0 : Nat} {D' : Hp} {T0 : State} {locs : List Loc} {cells slots : Nat} {h0 : Heap} {D : Hp} {ob0 : Nat} {i1 : Int32} {i2 : Int32} {i3 : Int32} (hw : ∀ d ∈ tables_1, d.before a0 Z = true) (hC : Cx p s m meth c Z prog_99_method_13_code 4 none "com/example/planar_drawing_kit/planardrawingkit/inspect/SweepLine" "rotateUp") (X0 : Stand p l e ({ frames := 1, cells := 0, slots := 0, locals := 15 } : Room) s m args below meth c T0 locs cells slots) (e0 : T0.heap = h0) (O0 : Ow Kt1 Z h0 n0 D) (N0 : Fr n0 locs) (hcc : cells ≤ 0) (hss : slots ≤ 0) (hf : b10_109 D ob0 i1 i2 i3 = some D') : Gl p e below s 0 0 (Qw Kt1 Z n0 none D') (T0.setTop (mkF m 109 #[.val (.ref (n0 + ob0)), .val (.int i1), .val (.int i2), .val (.int i3)] [])) := by
  obtain ⟨hx, hZ, hby, hml, hown, hnm, hret, hlk⟩ := id hC
  have hml : c.maxLocals = 4 := hml
  rw [b10_109] at hf
  obtain ⟨x49, hx49, hf⟩ := own_bind hf
  obtain ⟨T50, X50, e50, st50⟩ := getF X0 hx hZ hown (host := "") (Or.inl (hw _ (List.mem_of_getElem? (i := 17) rfl))) Via.refl e0 (O0.fld (gR_e hx49) rfl rfl) (g := (mkF m 110 #[.val (.ref (n0 + ob0)), .val (.int i1), .val (.int i2), .val (.int i3)] [(.ref (n0 + ob0))])) rfl rfl (hb hby d10_110)
  obtain ⟨D51, hq51, hf⟩ := own_bind hf
  obtain ⟨T51, h51, L51, X51, e51, O51, N51, st51⟩ := stIW X50 hx hZ e50 O0 N0 hq51 rfl (g := (mkF m 115 #[.val (.ref (n0 + ob0)), .val (.int i1), .val (.int i2), .val (.int i3)] [(.int i1), (.int i2), (.ref (n0 + x49))])) rfl rfl (hb hby d10_115)
  obtain ⟨x52, hx52, hf⟩ := own_bind hf
  obtain ⟨T53, X53, e53, st53⟩ := getF X51 hx hZ hown (host := "") (Or.inl (hw _ (List.mem_of_getElem? (i := 17) rfl))) Via.refl e51 (O51.fld (gR_e hx52) rfl rfl) (g := (mkF m 117 #[.val (.ref (n0 + ob0)), .val (.int i1), .val (.int i2), .val (.int i3)] [(.ref (n0 + ob0))])) rfl rfl (hb hby d10_117)
  obtain ⟨D54, hq54, hf⟩ := own_bind hf
  obtain ⟨T54, h54, L54, X54, e54, O54, N54, st54⟩ := stIW X53 hx hZ e53 O51 N51 hq54 rfl (g := (mkF m 122 #[.val (.ref (n0 + ob0)), .val (.int i1), .val (.int i2), .val (.int i3)] [(.int i3), (.int i1), (.ref (n0 + x52))])) rfl rfl (hb hby d10_122)
  obtain ⟨u56, hk55, hf⟩ := own_bind hf
  obtain ⟨D55, hq55, hf⟩ := own_bind hf
  obtain ⟨T55, h55, L55, X55, e55, O55, N55, st55⟩ := callPW X54 hx hZ (y := (⟨"com/example/planar_drawing_kit/planardrawingkit/inspect/SweepLine", "replaceChild", "(III)V"⟩ : MethodName)) hown (hw _ (List.mem_of_getElem? (i := 75) rfl)) (hw _ (List.mem_of_getElem? (i := 77) rfl)) (hw _ (List.mem_of_getElem? (i := 2) rfl)) (hw _ (List.mem_of_getElem? (i := 76) rfl)) (hw _ (List.mem_of_getElem? (i := 3) rfl)) (hw _ (List.mem_of_getElem? (i := 78) rfl)) (by decide) e54 O54 N54 hk55 rfl (as' := [(.int i3), (.int i2), (.int i1)]) (ct11 hw hq55) (W := 0) (kc := 0) (ks := 0) rfl rfl (by decide) (by decide) (g := (mkF m 127 #[.val (.ref (n0 + ob0)), .val (.int i1), .val (.int i2), .val (.int i3)] [(.int i1), (.int i2), (.int i3), (.ref (n0 + ob0))])) rfl (by rw [hml]; rfl) (rest := []) (lenOf pd_4 rfl) rfl (by show 2 * 0 + _ ≤ _; exact Nat.le_of_eq rfl) (hb hby d10_127) (by show _ + 0 ≤ 0; omega) (by show _ + 0 ≤ 0; omega)
  refine Gl.on (B := T55.setTop (mkF m 130 #[.val (.ref (n0 + ob0)), .val (.int i1), .val (.int i2), .val (.int i3)] [])) (fun t k => ?_) ?_
  · show Steps p.tables e below (T0.setTop (mkF m 109 #[.val (.ref (n0 + ob0)), .val (.int i1), .val (.int i2), .val (.int i3)] [])) _
    refine XS.aloadN X0.here hx rfl (hb hby d10_109) rfl rfl ?_
    show Steps p.tables e below (T0.setTop (mkF m 110 #[.val (.ref (n0 + ob0)), .val (.int i1), .val (.int i2), .val (.int i3)] [(.ref (n0 + ob0))])) _
    refine st50 _ ?_
    show Steps p.tables e below (T50.setTop (mkF m 113 #[.val (.ref (n0 + ob0)), .val (.int i1), .val (.int i2), .val (.int i3)] [(.ref (n0 + x49))])) _
    refine XS.iloadN X50.here hx rfl (hb hby d10_113) rfl ?_
    show Steps p.tables e below (T50.setTop (mkF m 114 #[.val (.ref (n0 + ob0)), .val (.int i1), .val (.int i2), .val (.int i3)] [(.int i2), (.ref (n0 + x49))])) _
    refine XS.iloadN X50.here hx rfl (hb hby d10_114) rfl ?_
    show Steps p.tables e below (T50.setTop (mkF m 115 #[.val (.ref (n0 + ob0)), .val (.int i1), .val (.int i2), .val (.int i3)] [(.int i1), (.int i2), (.ref (n0 + x49))])) _
    refine st51 _ ?_
    show Steps p.tables e below (T51.setTop (mkF m 116 #[.val (.ref (n0 + ob0)), .val (.int i1), .val (.int i2), .val (.int i3)] [])) _
    refine XS.aloadN X51.here hx rfl (hb hby d10_116) rfl rfl ?_
    show Steps p.tables e below (T51.setTop (mkF m 117 #[.val (.ref (n0 + ob0)), .val (.int i1), .val (.int i2), .val (.int i3)] [(.ref (n0 + ob0))])) _
    refine st53 _ ?_
    show Steps p.tables e below (T53.setTop (mkF m 120 #[.val (.ref (n0 + ob0)), .val (.int i1), .val (.int i2), .val (.int i3)] [(.ref (n0 + x52))])) _
    refine XS.iloadN X53.here hx rfl (hb hby d10_120) rfl ?_
    show Steps p.tables e below (T53.setTop (mkF m 121 #[.val (.ref (n0 + ob0)), .val (.int i1), .val (.int i2), .val (.int i3)] [(.int i1), (.ref (n0 + x52))])) _
    refine XS.iloadN X53.here hx rfl (hb hby d10_121) rfl ?_
    show Steps p.tables e below (T53.setTop (mkF m 122 #[.val (.ref (n0 + ob0)), .val (.int i1), .val (.int i2), .val (.int i3)] [(.int i3), (.int i1), (.ref (n0 + x52))])) _
    refine st54 _ ?_
    show Steps p.tables e below (T54.setTop (mkF m 123 #[.val (.ref (n0 + ob0)), .val (.int i1), .val (.int i2), .val (.int i3)] [])) _
    refine XS.aloadN X54.here hx rfl (hb hby d10_123) rfl rfl ?_
    show Steps p.tables e below (T54.setTop (mkF m 124 #[.val (.ref (n0 + ob0)), .val (.int i1), .val (.int i2), .val (.int i3)] [(.ref (n0 + ob0))])) _
    refine XS.iloadN X54.here hx rfl (hb hby d10_124) rfl ?_
    show Steps p.tables e below (T54.setTop (mkF m 125 #[.val (.ref (n0 + ob0)), .val (.int i1), .val (.int i2), .val (.int i3)] [(.int i3), (.ref (n0 + ob0))])) _
    refine XS.iloadN X54.here hx rfl (hb hby d10_125) rfl ?_
    show Steps p.tables e below (T54.setTop (mkF m 126 #[.val (.ref (n0 + ob0)), .val (.int i1), .val (.int i2), .val (.int i3)] [(.int i2), (.int i3), (.ref (n0 + ob0))])) _
    refine XS.iloadN X54.here hx rfl (hb hby d10_126) rfl ?_
    show Steps p.tables e below (T54.setTop (mkF m 127 #[.val (.ref (n0 + ob0)), .val (.int i1), .val (.int i2), .val (.int i3)] [(.int i1), (.int i2), (.int i3), (.ref (n0 + ob0))])) _
    refine st55 _ ?_
    exact k
  obtain rfl := own_inj1 hf
  exact Gl.outV X55 hx hlk hret (hb hby d10_130) ⟨rfl, N55, by rw [e55]; exact O55⟩ (by show _ ≤ 0; omega) (by show _ ≤ 0; omega)
def b10_58 (D : Hp) (ob0 : Nat) (i1 : Int32) (i2 : Int32) (i3 : Int32) : Option (Hp) :=
  (gR D ob0 1 2).bind fun x46 =>
  (wV D x46 0 i1 (.int i2)).bind fun D48 =>
  b10_109 D48 ob0 i1 i2 i3
set_option maxRecDepth 65536 in
set_option maxHeartbeats 40000000 in
theorem bt10_58 {p : Program} {l : Launch} {e : Env} {s : State} {m : MethodId} {args : Array Value} {below : List Frame} {meth : Method} {c : Code} {Z : State} {a0 : Array Value} {n0 : Nat} {D' : Hp} {T0 : State} {locs : List Loc} {cells slots : Nat} {h0 : Heap} {D : Hp} {ob0 : Nat} {i1 : Int32} {i2 : Int32} {i3 : Int32} (hw : ∀ d ∈ tables_1, d.before a0 Z = true) (hC : Cx p s m meth c Z prog_99_method_13_code 4 none "com/example/planar_drawing_kit/planardrawingkit/inspect/SweepLine" "rotateUp") (X0 : Stand p l e ({ frames := 1, cells := 0, slots := 0, locals := 15 } : Room) s m args below meth c T0 locs cells slots) (e0 : T0.heap = h0) (O0 : Ow Kt1 Z h0 n0 D) (N0 : Fr n0 locs) (hcc : cells ≤ 0) (hss : slots ≤ 0) (hf : b10_58 D ob0 i1 i2 i3 = some D') : Gl p e below s 0 0 (Qw Kt1 Z n0 none D') (T0.setTop (mkF m 58 #[.val (.ref (n0 + ob0)), .val (.int i1), .val (.int i2), .val (.int i3)] [])) := by
  obtain ⟨hx, hZ, hby, hml, hown, hnm, hret, hlk⟩ := id hC
  have hml : c.maxLocals = 4 := hml
  rw [b10_58] at hf
  obtain ⟨x46, hx46, hf⟩ := own_bind hf
  obtain ⟨T47, X47, e47, st47⟩ := getF X0 hx hZ hown (host := "") (Or.inl (hw _ (List.mem_of_getElem? (i := 15) rfl))) Via.refl e0 (O0.fld (gR_e hx46) rfl rfl) (g := (mkF m 59 #[.val (.ref (n0 + ob0)), .val (.int i1), .val (.int i2), .val (.int i3)] [(.ref (n0 + ob0))])) rfl rfl (hb hby d10_59)
  obtain ⟨D48, hq48, hf⟩ := own_bind hf
  obtain ⟨T48, h48, L48, X48, e48, O48, N48, st48⟩ := stIW X47 hx hZ e47 O0 N0 hq48 rfl (g := (mkF m 64 #[.val (.ref (n0 + ob0)), .val (.int i1), .val (.int i2), .val (.int i3)] [(.int i2), (.int i1), (.ref (n0 + x46))])) rfl rfl (hb hby d10_64)
  refine Gl.on (B := T48.setTop (mkF m 109 #[.val (.ref (n0 + ob0)), .val (.int i1), .val (.int i2), .val (.int i3)] [])) (fun t k => ?_) ?_
  · show Steps p.tables e below (T0.setTop (mkF m 58 #[.val (.ref (n0 + ob0)), .val (.int i1), .val (.int i2), .val (.int i3)] [])) _
    refine XS.aloadN X0.here hx rfl (hb hby d10_58) rfl rfl ?_
    show Steps p.tables e below (T0.setTop (mkF m 59 #[.val (.ref (n0 + ob0)), .val (.int i1), .val (.int i2), .val (.int i3)] [(.ref (n0 + ob0))])) _
    refine st47 _ ?_
    show Steps p.tables e below (T47.setTop (mkF m 62 #[.val (.ref (n0 + ob0)), .val (.int i1), .val (.int i2), .val (.int i3)] [(.ref (n0 + x46))])) _
    refine XS.iloadN X47.here hx rfl (hb hby d10_62) rfl ?_
    show Steps p.tables e below (T47.setTop (mkF m 63 #[.val (.ref (n0 + ob0)), .val (.int i1), .val (.int i2), .val (.int i3)] [(.int i1), (.ref (n0 + x46))])) _
    refine XS.iloadN X47.here hx rfl (hb hby d10_63) rfl ?_
    show Steps p.tables e below (T47.setTop (mkF m 64 #[.val (.ref (n0 + ob0)), .val (.int i1), .val (.int i2), .val (.int i3)] [(.int i2), (.int i1), (.ref (n0 + x46))])) _
    refine st48 _ ?_
    show Steps p.tables e below (T48.setTop (mkF m 65 #[.val (.ref (n0 + ob0)), .val (.int i1), .val (.int i2), .val (.int i3)] [])) _
    refine XS.goto X48.here hx rfl (pc0 := 65) (pc' := 109) rfl (hb hby d10_65) (by decide) (by decide) ?_
    exact k
  exact bt10_109 hw hC X48 e48 O48 N48 (by omega) (by omega) hf
def b10_102 (D : Hp) (ob0 : Nat) (i1 : Int32) (i2 : Int32) (i3 : Int32) : Option (Hp) :=
  (gR D ob0 1 1).bind fun x43 =>
  (wV D x43 0 i1 (.int i2)).bind fun D45 =>
  b10_109 D45 ob0 i1 i2 i3
set_option maxRecDepth 65536 in
set_option maxHeartbeats 40000000 in
theorem bt10_102 {p : Program} {l : Launch} {e : Env} {s : State} {m : MethodId} {args : Array Value} {below : List Frame} {meth : Method} {c : Code} {Z : State} {a0 : Array Value} {n0 : Nat} {D' : Hp} {T0 : State} {locs : List Loc} {cells slots : Nat} {h0 : Heap} {D : Hp} {ob0 : Nat} {i1 : Int32} {i2 : Int32} {i3 : Int32} (hw : ∀ d ∈ tables_1, d.before a0 Z = true) (hC : Cx p s m meth c Z prog_99_method_13_code 4 none "com/example/planar_drawing_kit/planardrawingkit/inspect/SweepLine" "rotateUp") (X0 : Stand p l e ({ frames := 1, cells := 0, slots := 0, locals := 15 } : Room) s m args below meth c T0 locs cells slots) (e0 : T0.heap = h0) (O0 : Ow Kt1 Z h0 n0 D) (N0 : Fr n0 locs) (hcc : cells ≤ 0) (hss : slots ≤ 0) (hf : b10_102 D ob0 i1 i2 i3 = some D') : Gl p e below s 0 0 (Qw Kt1 Z n0 none D') (T0.setTop (mkF m 102 #[.val (.ref (n0 + ob0)), .val (.int i1), .val (.int i2), .val (.int i3)] [])) := by
  obtain ⟨hx, hZ, hby, hml, hown, hnm, hret, hlk⟩ := id hC
  have hml : c.maxLocals = 4 := hml
  rw [b10_102] at hf
  obtain ⟨x43, hx43, hf⟩ := own_bind hf
  obtain ⟨T44, X44, e44, st44⟩ := getF X0 hx hZ hown (host := "") (Or.inl (hw _ (List.mem_of_getElem? (i := 13) rfl))) Via.refl e0 (O0.fld (gR_e hx43) rfl rfl) (g := (mkF m 103 #[.val (.ref (n0 + ob0)), .val (.int i1), .val (.int i2), .val (.int i3)] [(.ref (n0 + ob0))])) rfl rfl (hb hby d10_103)
  obtain ⟨D45, hq45, hf⟩ := own_bind hf
  obtain ⟨T45, h45, L45, X45, e45, O45, N45, st45⟩ := stIW X44 hx hZ e44 O0 N0 hq45 rfl (g := (mkF m 108 #[.val (.ref (n0 + ob0)), .val (.int i1), .val (.int i2), .val (.int i3)] [(.int i2), (.int i1), (.ref (n0 + x43))])) rfl rfl (hb hby d10_108)
  refine Gl.on (B := T45.setTop (mkF m 109 #[.val (.ref (n0 + ob0)), .val (.int i1), .val (.int i2), .val (.int i3)] [])) (fun t k => ?_) ?_
  · show Steps p.tables e below (T0.setTop (mkF m 102 #[.val (.ref (n0 + ob0)), .val (.int i1), .val (.int i2), .val (.int i3)] [])) _
    refine XS.aloadN X0.here hx rfl (hb hby d10_102) rfl rfl ?_
    show Steps p.tables e below (T0.setTop (mkF m 103 #[.val (.ref (n0 + ob0)), .val (.int i1), .val (.int i2), .val (.int i3)] [(.ref (n0 + ob0))])) _
    refine st44 _ ?_
    show Steps p.tables e below (T44.setTop (mkF m 106 #[.val (.ref (n0 + ob0)), .val (.int i1), .val (.int i2), .val (.int i3)] [(.ref (n0 + x43))])) _
    refine XS.iloadN X44.here hx rfl (hb hby d10_106) rfl ?_
    show Steps p.tables e below (T44.setTop (mkF m 107 #[.val (.ref (n0 + ob0)), .val (.int i1), .val (.int i2), .val (.int i3)] [(.int i1), (.ref (n0 + x43))])) _
    refine XS.iloadN X44.here hx rfl (hb hby d10_107) rfl ?_
    show Steps p.tables e below (T44.setTop (mkF m 108 #[.val (.ref (n0 + ob0)), .val (.int i1), .val (.int i2), .val (.int i3)] [(.int i2), (.int i1), (.ref (n0 + x43))])) _
    refine st45 _ ?_
    exact k
  exact bt10_109 hw hC X45 e45 O45 N45 (by omega) (by omega) hf
def f10 (D : Hp) (ob0 : Nat) (i1 : Int32) : Option (Hp) :=
  (gR D ob0 1 3).bind fun x1 =>
  (rI D x1 0 i1).bind fun x3 =>
  (gR D ob0 1 3).bind fun x4 =>
  (rI D x4 0 x3).bind fun x6 =>
  (gR D ob0 1 1).bind fun x7 =>
  (rI D x7 0 x3).bind fun x9 =>
  if x9 = i1 then ((gR D ob0 1 1).bind fun x11 =>
  (gR D ob0 1 2).bind fun x13 =>
  (rI D x13 0 i1).bind fun x15 =>
  (wV D x11 0 x3 (.int x15)).bind fun D16 =>
  (gR D16 ob0 1 2).bind fun x17 =>
  (rI D16 x17 0 i1).bind fun x19 =>
  if x19 = (-1 : Int32) then (b10_58 D16 ob0 i1 x3 x6) else ((gR D16 ob0 1 3).bind fun x21 =>
  (gR D16 ob0 1 2).bind fun x23 =>
  (rI D16 x23 0 i1).bind fun x25 =>
  (wV D16 x21 0 x25 (.int x3)).bind fun D26 =>
  b10_58 D26 ob0 i1 x3 x6)) else ((gR D ob0 1 2).bind fun x27 =>
  (gR D ob0 1 1).bind fun x29 =>
  (rI D x29 0 i1).bind fun x31 =>
  (wV D x27 0 x3 (.int x31)).bind fun D32 =>
  (gR D32 ob0 1 1).bind fun x33 =>
  (rI D32 x33 0 i1).bind fun x35 =>
  if x35 = (-1 : Int32) then (b10_102 D32 ob0 i1 x3 x6) else ((gR D32 ob0 1 3).bind fun x37 =>
  (gR D32 ob0 1 1).bind fun x39 =>
  (rI D32 x39 0 i1).bind fun x41 =>
  (wV D32 x37 0 x41 (.int x3)).bind fun D42 =>
  b10_102 D42 ob0 i1 x3 x6))
theorem ef_10 (m : MethodId) (n0 : Nat) (ob0 : Nat) (i1 : Int32) : entryFrame m #[(.ref (n0 + ob0)), (.int i1)] 4 = mkF m 0 #[.val (.ref (n0 + ob0)), .val (.int i1), .unset, .unset] [] := by first | (simp [entryFrame, mkF, argsToLocals, Value.category]; done) | rfl
set_option maxRecDepth 65536 in
set_option maxHeartbeats 40000000 in
theorem ct10 {l : Launch} {Z : State} {a0 : Array Value} (hw : ∀ d ∈ tables_1, d.before a0 Z = true) {n0 : Nat} {D D' : Hp} {ob0 : Nat} {i1 : Int32} (hf : f10 D ob0 i1 = some D') :
    Ct Kt1 l Z (⟨"com/example/planar_drawing_kit/planardrawingkit/inspect/SweepLine", "rotateUp", "(I)V"⟩ : MethodName) (.code (⟨"com/example/planar_drawing_kit/planardrawingkit/inspect/SweepLine", "rotateUp", "(I)V"⟩ : MethodName) prog_99_method_13_code 4 none) ({ frames := 1, cells := 0, slots := 0, locals := 15 } : Room) n0 D #[(.ref (n0 + ob0)), (.int i1)] none D' := by
  refine Ct.of (plainFor_of_name pn_10) ?_
  intro p e s m below meth c T0 h0 hC X0 e0 O0
  obtain ⟨hx, hZ, hby, hml, hown, hnm, hret, hlk⟩ := id hC
  have hml : c.maxLocals = 4 := hml
  have hown : s.vm.findClass "com/example/planar_drawing_kit/planardrawingkit/inspect/SweepLine" = some m.cls := hown
  have hnm : meth.name = "rotateUp" := hnm
  have N0 := Fr.nil n0
  refine Gl.on (fun t k => castTop (ef_10 m n0 ob0 i1) k) ?_
  rw [f10] at hf
  obtain ⟨x1, hx1, hf⟩ := own_bind hf
  obtain ⟨T2, X2, e2, st2⟩ := getF X0 hx hZ hown (host := "") (Or.inl (hw _ (List.mem_of_getElem? (i := 17) rfl))) Via.refl e0 (O0.fld (gR_e hx1) rfl rfl) (g := (mkF m 1 #[.val (.ref (n0 + ob0)), .val (.int i1), .unset, .unset] [(.ref (n0 + ob0))])) rfl rfl (hb hby d10_1)
  obtain ⟨x3, hx3, hf⟩ := own_bind hf
  obtain ⟨x4, hx4, hf⟩ := own_bind hf
  obtain ⟨T5, X5, e5, st5⟩ := getF X2 hx hZ hown (host := "") (Or.inl (hw _ (List.mem_of_getElem? (i := 17) rfl))) Via.refl e2 (O0.fld (gR_e hx4) rfl rfl) (g := (mkF m 8 #[.val (.ref (n0 + ob0)), .val (.int i1), .val (.int x3), .unset] [(.ref (n0 + ob0))])) rfl rfl (hb hby d10_8)
  obtain ⟨x6, hx6, hf⟩ := own_bind hf
  obtain ⟨x7, hx7, hf⟩ := own_bind hf
  obtain ⟨T8, X8, e8, st8⟩ := getF X5 hx hZ hown (host := "") (Or.inl (hw _ (List.mem_of_getElem? (i := 13) rfl))) Via.refl e5 (O0.fld (gR_e hx7) rfl rfl) (g := (mkF m 15 #[.val (.ref (n0 + ob0)), .val (.int i1), .val (.int x3), .val (.int x6)] [(.ref (n0 + ob0))])) rfl rfl (hb hby d10_15)
  obtain ⟨x9, hx9, hf⟩ := own_bind hf
  refine Gl.on (B := T8.setTop (mkF m 21 #[.val (.ref (n0 + ob0)), .val (.int i1), .val (.int x3), .val (.int x6)] [(.int i1), (.int x9)])) (fun t k => ?_) ?_
  · show Steps p.tables e below (T0.setTop (mkF m 0 #[.val (.ref (n0 + ob0)), .val (.int i1), .unset, .unset] [])) _
    refine XS.aloadN X0.here hx rfl (hb hby d10_0) rfl rfl ?_
    show Steps p.tables e below (T0.setTop (mkF m 1 #[.val (.ref (n0 + ob0)), .val (.int i1), .unset, .unset] [(.ref (n0 + ob0))])) _
    refine st2 _ ?_
    show Steps p.tables e below (T2.setTop (mkF m 4 #[.val (.ref (n0 + ob0)), .val (.int i1), .unset, .unset] [(.ref (n0 + x1))])) _
    refine XS.iloadN X2.here hx rfl (hb hby d10_4) rfl ?_
    show Steps p.tables e below (T2.setTop (mkF m 5 #[.val (.ref (n0 + ob0)), .val (.int i1), .unset, .unset] [(.int i1), (.ref (n0 + x1))])) _
    refine ldW X2 hx hZ e2 O0 hx3 rfl (g := (mkF m 5 #[.val (.ref (n0 + ob0)), .val (.int i1), .unset, .unset] [(.int i1), (.ref (n0 + x1))])) rfl rfl (hb hby d10_5) _ ?_
    show Steps p.tables e below (T2.setTop (mkF m 6 #[.val (.ref (n0 + ob0)), .val (.int i1), .unset, .unset] [(.int x3)])) _
    refine XS.istoreN X2.here hx rfl (hb hby d10_6) rfl (l' := #[.val (.ref (n0 + ob0)), .val (.int i1), .val (.int x3), .unset]) rfl ?_
    show Steps p.tables e below (T2.setTop (mkF m 7 #[.val (.ref (n0 + ob0)), .val (.int i1), .val (.int x3), .unset] [])) _
    refine XS.aloadN X2.here hx rfl (hb hby d10_7) rfl rfl ?_
    show Steps p.tables e below (T2.setTop (mkF m 8 #[.val (.ref (n0 + ob0)), .val (.int i1), .val (.int x3), .unset] [(.ref (n0 + ob0))])) _
    refine st5 _ ?_
    show Steps p.tables e below (T5.setTop (mkF m 11 #[.val (.ref (n0 + ob0)), .val (.int i1), .val (.int x3), .unset] [(.ref (n0 + x4))])) _
    refine XS.iloadN X5.here hx rfl (hb hby d10_11) rfl ?_
    show Steps p.tables e below (T5.setTop (mkF m 12 #[.val (.ref (n0 + ob0)), .val (.int i1), .val (.int x3), .unset] [(.int x3), (.ref (n0 + x4))])) _
    refine ldW X5 hx hZ e5 O0 hx6 rfl (g := (mkF m 12 #[.val (.ref (n0 + ob0)), .val (.int i1), .val (.int x3), .unset] [(.int x3), (.ref (n0 + x4))])) rfl rfl (hb hby d10_12) _ ?_
    show Steps p.tables e below (T5.setTop (mkF m 13 #[.val (.ref (n0 + ob0)), .val (.int i1), .val (.int x3), .unset] [(.int x6)])) _
    refine XS.istoreN X5.here hx rfl (hb hby d10_13) rfl (l' := #[.val (.ref (n0 + ob0)), .val (.int i1), .val (.int x3), .val (.int x6)]) rfl ?_
    show Steps p.tables e below (T5.setTop (mkF m 14 #[.val (.ref (n0 + ob0)), .val (.int i1), .val (.int x3), .val (.int x6)] [])) _
    refine XS.aloadN X5.here hx rfl (hb hby d10_14) rfl rfl ?_
    show Steps p.tables e below (T5.setTop (mkF m 15 #[.val (.ref (n0 + ob0)), .val (.int i1), .val (.int x3), .val (.int x6)] [(.ref (n0 + ob0))])) _
    refine st8 _ ?_
    show Steps p.tables e below (T8.setTop (mkF m 18 #[.val (.ref (n0 + ob0)), .val (.int i1), .val (.int x3), .val (.int x6)] [(.ref (n0 + x7))])) _
    refine XS.iloadN X8.here hx rfl (hb hby d10_18) rfl ?_
    show Steps p.tables e below (T8.setTop (mkF m 19 #[.val (.ref (n0 + ob0)), .val (.int i1), .val (.int x3), .val (.int x6)] [(.int x3), (.ref (n0 + x7))])) _
    refine ldW X8 hx hZ e8 O0 hx9 rfl (g := (mkF m 19 #[.val (.ref (n0 + ob0)), .val (.int i1), .val (.int x3), .val (.int x6)] [(.int x3), (.ref (n0 + x7))])) rfl rfl (hb hby d10_19) _ ?_
    show Steps p.tables e below (T8.setTop (mkF m 20 #[.val (.ref (n0 + ob0)), .val (.int i1), .val (.int x3), .val (.int x6)] [(.int x9)])) _
    refine XS.iloadN X8.here hx rfl (hb hby d10_20) rfl ?_
    exact k
  by_cases hc10 : x9 = i1
  · rw [if_pos hc10] at hf
    obtain ⟨x11, hx11, hf⟩ := own_bind hf
    obtain ⟨T12, X12, e12, st12⟩ := getF X8 hx hZ hown (host := "") (Or.inl (hw _ (List.mem_of_getElem? (i := 13) rfl))) Via.refl e8 (O0.fld (gR_e hx11) rfl rfl) (g := (mkF m 25 #[.val (.ref (n0 + ob0)), .val (.int i1), .val (.int x3), .val (.int x6)] [(.ref (n0 + ob0))])) rfl rfl (hb hby d10_25)
    obtain ⟨x13, hx13, hf⟩ := own_bind hf
    obtain ⟨T14, X14, e14, st14⟩ := getF X12 hx hZ hown (host := "") (Or.inl (hw _ (List.mem_of_getElem? (i := 15) rfl))) Via.refl e12 (O0.fld (gR_e hx13) rfl rfl) (g := (mkF m 30 #[.val (.ref (n0 + ob0)), .val (.int i1), .val (.int x3), .val (.int x6)] [(.ref (n0 + ob0)), (.int x3), (.ref (n0 + x11))])) rfl rfl (hb hby d10_30)
    obtain ⟨x15, hx15, hf⟩ := own_bind hf
    obtain ⟨D16, hq16, hf⟩ := own_bind hf
    obtain ⟨T16, h16, L16, X16, e16, O16, N16, st16⟩ := stIW X14 hx hZ e14 O0 N0 hq16 rfl (g := (mkF m 35 #[.val (.ref (n0 + ob0)), .val (.int i1), .val (.int x3), .val (.int x6)] [(.int x15), (.int x3), (.ref (n0 + x11))])) rfl rfl (hb hby d10_35)
    obtain ⟨x17, hx17, hf⟩ := own_bind hf
    obtain ⟨T18, X18, e18, st18⟩ := getF X16 hx hZ hown (host := "") (Or.inl (hw _ (List.mem_of_getElem? (i := 15) rfl))) Via.refl e16 (O16.fld (gR_e hx17) rfl rfl) (g := (mkF m 37 #[.val (.ref (n0 + ob0)), .val (.int i1), .val (.int x3), .val (.int x6)] [(.ref (n0 + ob0))])) rfl rfl (hb hby d10_37)
    obtain ⟨x19, hx19, hf⟩ := own_bind hf
    refine Gl.on (B := T18.setTop (mkF m 43 #[.val (.ref (n0 + ob0)), .val (.int i1), .val (.int x3), .val (.int x6)] [(.int (-1 : Int32)), (.int x19)])) (fun t k => ?_) ?_
    · show Steps p.tables e below (T8.setTop (mkF m 21 #[.val (.ref (n0 + ob0)), .val (.int i1), .val (.int x3), .val (.int x6)] [(.int i1), (.int x9)])) _
      refine XS.icmpNo X8.here hx rfl (hb hby d10_21) rfl (teq hc10).2 ?_
      show Steps p.tables e below (T8.setTop (mkF m 24 #[.val (.ref (n0 + ob0)), .val (.int i1), .val (.int x3), .val (.int x6)] [])) _
      refine XS.aloadN X8.here hx rfl (hb hby d10_24) rfl rfl ?_
      show Steps p.tables e below (T8.setTop (mkF m 25 #[.val (.ref (n0 + ob0)), .val (.int i1), .val (.int x3), .val (.int x6)] [(.ref (n0 + ob0))])) _
      refine st12 _ ?_
      show Steps p.tables e below (T12.setTop (mkF m 28 #[.val (.ref (n0 + ob0)), .val (.int i1), .val (.int x3), .val (.int x6)] [(.ref (n0 + x11))])) _
      refine XS.iloadN X12.here hx rfl (hb hby d10_28) rfl ?_
      show Steps p.tables e below (T12.setTop (mkF m 29 #[.val (.ref (n0 + ob0)), .val (.int i1), .val (.int x3), .val (.int x6)] [(.int x3), (.ref (n0 + x11))])) _
      refine XS.aloadN X12.here hx rfl (hb hby d10_29) rfl rfl ?_
      show Steps p.tables e below (T12.setTop (mkF m 30 #[.val (.ref (n0 + ob0)), .val (.int i1), .val (.int x3), .val (.int x6)] [(.ref (n0 + ob0)), (.int x3), (.ref (n0 + x11))])) _
      refine st14 _ ?_
      show Steps p.tables e below (T14.setTop (mkF m 33 #[.val (.ref (n0 + ob0)), .val (.int i1), .val (.int x3), .val (.int x6)] [(.ref (n0 + x13)), (.int x3), (.ref (n0 + x11))])) _
      refine XS.iloadN X14.here hx rfl (hb hby d10_33) rfl ?_
      show Steps p.tables e below (T14.setTop (mkF m 34 #[.val (.ref (n0 + ob0)), .val (.int i1), .val (.int x3), .val (.int x6)] [(.int i1), (.ref (n0 + x13)), (.int x3), (.ref (n0 + x11))])) _
      refine ldW X14 hx hZ e14 O0 hx15 rfl (g := (mkF m 34 #[.val (.ref (n0 + ob0)), .val (.int i1), .val (.int x3), .val (.int x6)] [(.int i1), (.ref (n0 + x13)), (.int x3), (.ref (n0 + x11))])) rfl rfl (hb hby d10_34) _ ?_
      show Steps p.tables e below (T14.setTop (mkF m 35 #[.val (.ref (n0 + ob0)), .val (.int i1), .val (.int x3), .val (.int x6)] [(.int x15), (.int x3), (.ref (n0 + x11))])) _
      refine st16 _ ?_
      show Steps p.tables e below (T16.setTop (mkF m 36 #[.val (.ref (n0 + ob0)), .val (.int i1), .val (.int x3), .val (.int x6)] [])) _
      refine XS.aloadN X16.here hx rfl (hb hby d10_36) rfl rfl ?_
      show Steps p.tables e below (T16.setTop (mkF m 37 #[.val (.ref (n0 + ob0)), .val (.int i1), .val (.int x3), .val (.int x6)] [(.ref (n0 + ob0))])) _
      refine st18 _ ?_
      show Steps p.tables e below (T18.setTop (mkF m 40 #[.val (.ref (n0 + ob0)), .val (.int i1), .val (.int x3), .val (.int x6)] [(.ref (n0 + x17))])) _
      refine XS.iloadN X18.here hx rfl (hb hby d10_40) rfl ?_
      show Steps p.tables e below (T18.setTop (mkF m 41 #[.val (.ref (n0 + ob0)), .val (.int i1), .val (.int x3), .val (.int x6)] [(.int i1), (.ref (n0 + x17))])) _
      refine ldW X18 hx hZ e18 O16 hx19 rfl (g := (mkF m 41 #[.val (.ref (n0 + ob0)), .val (.int i1), .val (.int x3), .val (.int x6)] [(.int i1), (.ref (n0 + x17))])) rfl rfl (hb hby d10_41) _ ?_
      show Steps p.tables e below (T18.setTop (mkF m 42 #[.val (.ref (n0 + ob0)), .val (.int i1), .val (.int x3), .val (.int x6)] [(.int x19)])) _
      refine XS.iconst X18.here hx rfl (hb hby d10_42) ?_
      exact k
    by_cases hc20 : x19 = (-1 : Int32)
    · rw [if_pos hc20] at hf
      refine Gl.on (B := T18.setTop (mkF m 58 #[.val (.ref (n0 + ob0)), .val (.int i1), .val (.int x3), .val (.int x6)] [])) (fun t k => ?_) ?_
      · show Steps p.tables e below (T18.setTop (mkF m 43 #[.val (.ref (n0 + ob0)), .val (.int i1), .val (.int x3), .val (.int x6)] [(.int (-1 : Int32)), (.int x19)])) _
        refine XS.icmpYes X18.here hx rfl (pc0 := 43) (pc' := 58) rfl (hb hby d10_43) rfl (teq hc20).1 (by decide) (by decide) ?_
        exact k
      exact bt10_58 hw hC X18 e18 O16 N16 (by omega) (by omega) hf
    · rw [if_neg hc20] at hf
      obtain ⟨x21, hx21, hf⟩ := own_bind hf
      obtain ⟨T22, X22, e22, st22⟩ := getF X18 hx hZ hown (host := "") (Or.inl (hw _ (List.mem_of_getElem? (i := 17) rfl))) Via.refl e18 (O16.fld (gR_e hx21) rfl rfl) (g := (mkF m 47 #[.val (.ref (n0 + ob0)), .val (.int i1), .val (.int x3), .val (.int x6)] [(.ref (n0 + ob0))])) rfl rfl (hb hby d10_47)
      obtain ⟨x23, hx23, hf⟩ := own_bind hf
      obtain ⟨T24, X24, e24, st24⟩ := getF X22 hx hZ hown (host := "") (Or.inl (hw _ (List.mem_of_getElem? (i := 15) rfl))) Via.refl e22 (O16.fld (gR_e hx23) rfl rfl) (g := (mkF m 51 #[.val (.ref (n0 + ob0)), .val (.int i1), .val (.int x3), .val (.int x6)] [(.ref (n0 + ob0)), (.ref (n0 + x21))])) rfl rfl (hb hby d10_51)
      obtain ⟨x25, hx25, hf⟩ := own_bind hf
      obtain ⟨D26, hq26, hf⟩ := own_bind hf
      obtain ⟨T26, h26, L26, X26, e26, O26, N26, st26⟩ := stIW X24 hx hZ e24 O16 N16 hq26 rfl (g := (mkF m 57 #[.val (.ref (n0 + ob0)), .val (.int i1), .val (.int x3), .val (.int x6)] [(.int x3), (.int x25), (.ref (n0 + x21))])) rfl rfl (hb hby d10_57)
      refine Gl.on (B := T26.setTop (mkF m 58 #[.val (.ref (n0 + ob0)), .val (.int i1), .val (.int x3), .val (.int x6)] [])) (fun t k => ?_) ?_
      · show Steps p.tables e below (T18.setTop (mkF m 43 #[.val (.ref (n0 + ob0)), .val (.int i1), .val (.int x3), .val (.int x6)] [(.int (-1 : Int32)), (.int x19)])) _
        refine XS.icmpNo X18.here hx rfl (hb hby d10_43) rfl (feq hc20).1 ?_
        show Steps p.tables e below (T18.setTop (mkF m 46 #[.val (.ref (n0 + ob0)), .val (.int i1), .val (.int x3), .val (.int x6)] [])) _
        refine XS.aloadN X18.here hx rfl (hb hby d10_46) rfl rfl ?_
        show Steps p.tables e below (T18.setTop (mkF m 47 #[.val (.ref (n0 + ob0)), .val (.int i1), .val (.int x3), .val (.int x6)] [(.ref (n0 + ob0))])) _
        refine st22 _ ?_
        show Steps p.tables e below (T22.setTop (mkF m 50 #[.val (.ref (n0 + ob0)), .val (.int i1), .val (.int x3), .val (.int x6)] [(.ref (n0 + x21))])) _
        refine XS.aloadN X22.here hx rfl (hb hby d10_50) rfl rfl ?_
        show Steps p.tables e below (T22.setTop (mkF m 51 #[.val (.ref (n0 + ob0)), .val (.int i1), .val (.int x3), .val (.int x6)] [(.ref (n0 + ob0)), (.ref (n0 + x21))])) _
        refine st24 _ ?_
        show Steps p.tables e below (T24.setTop (mkF m 54 #[.val (.ref (n0 + ob0)), .val (.int i1), .val (.int x3), .val (.int x6)] [(.ref (n0 + x23)), (.ref (n0 + x21))])) _
        refine XS.iloadN X24.here hx rfl (hb hby d10_54) rfl ?_
        show Steps p.tables e below (T24.setTop (mkF m 55 #[.val (.ref (n0 + ob0)), .val (.int i1), .val (.int x3), .val (.int x6)] [(.int i1), (.ref (n0 + x23)), (.ref (n0 + x21))])) _
        refine ldW X24 hx hZ e24 O16 hx25 rfl (g := (mkF m 55 #[.val (.ref (n0 + ob0)), .val (.int i1), .val (.int x3), .val (.int x6)] [(.int i1), (.ref (n0 + x23)), (.ref (n0 + x21))])) rfl rfl (hb hby d10_55) _ ?_
        show Steps p.tables e below (T24.setTop (mkF m 56 #[.val (.ref (n0 + ob0)), .val (.int i1), .val (.int x3), .val (.int x6)] [(.int x25), (.ref (n0 + x21))])) _
        refine XS.iloadN X24.here hx rfl (hb hby d10_56) rfl ?_
        show Steps p.tables e below (T24.setTop (mkF m 57 #[.val (.ref (n0 + ob0)), .val (.int i1), .val (.int x3), .val (.int x6)] [(.int x3), (.int x25), (.ref (n0 + x21))])) _
        refine st26 _ ?_
        exact k
      exact bt10_58 hw hC X26 e26 O26 N26 (by omega) (by omega) hf
  · rw [if_neg hc10] at hf
    obtain ⟨x27, hx27, hf⟩ := own_bind hf
    obtain ⟨T28, X28, e28, st28⟩ := getF X8 hx hZ hown (host := "") (Or.inl (hw _ (List.mem_of_getElem? (i := 15) rfl))) Via.refl e8 (O0.fld (gR_e hx27) rfl rfl) (g := (mkF m 69 #[.val (.ref (n0 + ob0)), .val (.int i1), .val (.int x3), .val (.int x6)] [(.ref (n0 + ob0))])) rfl rfl (hb hby d10_69)
    obtain ⟨x29, hx29, hf⟩ := own_bind hf
    obtain ⟨T30, X30, e30, st30⟩ := getF X28 hx hZ hown (host := "") (Or.inl (hw _ (List.mem_of_getElem? (i := 13) rfl))) Via.refl e28 (O0.fld (gR_e hx29) rfl rfl) (g := (mkF m 74 #[.val (.ref (n0 + ob0)), .val (.int i1), .val (.int x3), .val (.int x6)] [(.ref (n0 + ob0)), (.int x3), (.ref (n0 + x27))])) rfl rfl (hb hby d10_74)
    obtain ⟨x31, hx31, hf⟩ := own_bind hf
    obtain ⟨D32, hq32, hf⟩ := own_bind hf
    obtain ⟨T32, h32, L32, X32, e32, O32, N32, st32⟩ := stIW X30 hx hZ e30 O0 N0 hq32 rfl (g := (mkF m 79 #[.val (.ref (n0 + ob0)), .val (.int i1), .val (.int x3), .val (.int x6)] [(.int x31), (.int x3), (.ref (n0 + x27))])) rfl rfl (hb hby d10_79)
    obtain ⟨x33, hx33, hf⟩ := own_bind hf
    obtain ⟨T34, X34, e34, st34⟩ := getF X32 hx hZ hown (host := "") (Or.inl (hw _ (List.mem_of_getElem? (i := 13) rfl))) Via.refl e32 (O32.fld (gR_e hx33) rfl rfl) (g := (mkF m 81 #[.val (.ref (n0 + ob0)), .val (.int i1), .val (.int x3), .val (.int x6)] [(.ref (n0 + ob0))])) rfl rfl (hb hby d10_81)
    obtain ⟨x35, hx35, hf⟩ := own_bind hf
    refine Gl.on (B := T34.setTop (mkF m 87 #[.val (.ref (n0 + ob0)), .val (.int i1), .val (.int x3), .val (.int x6)] [(.int (-1 : Int32)), (.int x35)])) (fun t k => ?_) ?_
    · show Steps p.tables e below (T8.setTop (mkF m 21 #[.val (.ref (n0 + ob0)), .val (.int i1), .val (.int x3), .val (.int x6)] [(.int i1), (.int x9)])) _
      refine XS.icmpYes X8.here hx rfl (pc0 := 21) (pc' := 68) rfl (hb hby d10_21) rfl (feq hc10).2 (by decide) (by decide) ?_
      show Steps p.tables e below (T8.setTop (mkF m 68 #[.val (.ref (n0 + ob0)), .val (.int i1), .val (.int x3), .val (.int x6)] [])) _
      refine XS.aloadN X8.here hx rfl (hb hby d10_68) rfl rfl ?_
      show Steps p.tables e below (T8.setTop (mkF m 69 #[.val (.ref (n0 + ob0)), .val (.int i1), .val (.int x3), .val (.int x6)] [(.ref (n0 + ob0))])) _
      refine st28 _ ?_
      show Steps p.tables e below (T28.setTop (mkF m 72 #[.val (.ref (n0 + ob0)), .val (.int i1), .val (.int x3), .val (.int x6)] [(.ref (n0 + x27))])) _
      refine XS.iloadN X28.here hx rfl (hb hby d10_72) rfl ?_
      show Steps p.tables e below (T28.setTop (mkF m 73 #[.val (.ref (n0 + ob0)), .val (.int i1), .val (.int x3), .val (.int x6)] [(.int x3), (.ref (n0 + x27))])) _
      refine XS.aloadN X28.here hx rfl (hb hby d10_73) rfl rfl ?_
      show Steps p.tables e below (T28.setTop (mkF m 74 #[.val (.ref (n0 + ob0)), .val (.int i1), .val (.int x3), .val (.int x6)] [(.ref (n0 + ob0)), (.int x3), (.ref (n0 + x27))])) _
      refine st30 _ ?_
      show Steps p.tables e below (T30.setTop (mkF m 77 #[.val (.ref (n0 + ob0)), .val (.int i1), .val (.int x3), .val (.int x6)] [(.ref (n0 + x29)), (.int x3), (.ref (n0 + x27))])) _
      refine XS.iloadN X30.here hx rfl (hb hby d10_77) rfl ?_
      show Steps p.tables e below (T30.setTop (mkF m 78 #[.val (.ref (n0 + ob0)), .val (.int i1), .val (.int x3), .val (.int x6)] [(.int i1), (.ref (n0 + x29)), (.int x3), (.ref (n0 + x27))])) _
      refine ldW X30 hx hZ e30 O0 hx31 rfl (g := (mkF m 78 #[.val (.ref (n0 + ob0)), .val (.int i1), .val (.int x3), .val (.int x6)] [(.int i1), (.ref (n0 + x29)), (.int x3), (.ref (n0 + x27))])) rfl rfl (hb hby d10_78) _ ?_
      show Steps p.tables e below (T30.setTop (mkF m 79 #[.val (.ref (n0 + ob0)), .val (.int i1), .val (.int x3), .val (.int x6)] [(.int x31), (.int x3), (.ref (n0 + x27))])) _
      refine st32 _ ?_
      show Steps p.tables e below (T32.setTop (mkF m 80 #[.val (.ref (n0 + ob0)), .val (.int i1), .val (.int x3), .val (.int x6)] [])) _
      refine XS.aloadN X32.here hx rfl (hb hby d10_80) rfl rfl ?_
      show Steps p.tables e below (T32.setTop (mkF m 81 #[.val (.ref (n0 + ob0)), .val (.int i1), .val (.int x3), .val (.int x6)] [(.ref (n0 + ob0))])) _
      refine st34 _ ?_
      show Steps p.tables e below (T34.setTop (mkF m 84 #[.val (.ref (n0 + ob0)), .val (.int i1), .val (.int x3), .val (.int x6)] [(.ref (n0 + x33))])) _
      refine XS.iloadN X34.here hx rfl (hb hby d10_84) rfl ?_
      show Steps p.tables e below (T34.setTop (mkF m 85 #[.val (.ref (n0 + ob0)), .val (.int i1), .val (.int x3), .val (.int x6)] [(.int i1), (.ref (n0 + x33))])) _
      refine ldW X34 hx hZ e34 O32 hx35 rfl (g := (mkF m 85 #[.val (.ref (n0 + ob0)), .val (.int i1), .val (.int x3), .val (.int x6)] [(.int i1), (.ref (n0 + x33))])) rfl rfl (hb hby d10_85) _ ?_
      show Steps p.tables e below (T34.setTop (mkF m 86 #[.val (.ref (n0 + ob0)), .val (.int i1), .val (.int x3), .val (.int x6)] [(.int x35)])) _
      refine XS.iconst X34.here hx rfl (hb hby d10_86) ?_
      exact k
    by_cases hc36 : x35 = (-1 : Int32)
    · rw [if_pos hc36] at hf
      refine Gl.on (B := T34.setTop (mkF m 102 #[.val (.ref (n0 + ob0)), .val (.int i1), .val (.int x3), .val (.int x6)] [])) (fun t k => ?_) ?_
      · show Steps p.tables e below (T34.setTop (mkF m 87 #[.val (.ref (n0 + ob0)), .val (.int i1), .val (.int x3), .val (.int x6)] [(.int (-1 : Int32)), (.int x35)])) _
        refine XS.icmpYes X34.here hx rfl (pc0 := 87) (pc' := 102) rfl (hb hby d10_87) rfl (teq hc36).1 (by decide) (by decide) ?_
        exact k
      exact bt10_102 hw hC X34 e34 O32 N32 (by omega) (by omega) hf
    · rw [if_neg hc36] at hf
      obtain ⟨x37, hx37, hf⟩ := own_bind hf
      obtain ⟨T38, X38, e38, st38⟩ := getF X34 hx hZ hown (host := "") (Or.inl (hw _ (List.mem_of_getElem? (i := 17) rfl))) Via.refl e34 (O32.fld (gR_e hx37) rfl rfl) (g := (mkF m 91 #[.val (.ref (n0 + ob0)), .val (.int i1), .val (.int x3), .val (.int x6)] [(.ref (n0 + ob0))])) rfl rfl (hb hby d10_91)
      obtain ⟨x39, hx39, hf⟩ := own_bind hf
      obtain ⟨T40, X40, e40, st40⟩ := getF X38 hx hZ hown (host := "") (Or.inl (hw _ (List.mem_of_getElem? (i := 13) rfl))) Via.refl e38 (O32.fld (gR_e hx39) rfl rfl) (g := (mkF m 95 #[.val (.ref (n0 + ob0)), .val (.int i1), .val (.int x3), .val (.int x6)] [(.ref (n0 + ob0)), (.ref (n0 + x37))])) rfl rfl (hb hby d10_95)
      obtain ⟨x41, hx41, hf⟩ := own_bind hf
      obtain ⟨D42, hq42, hf⟩ := own_bind hf
      obtain ⟨T42, h42, L42, X42, e42, O42, N42, st42⟩ := stIW X40 hx hZ e40 O32 N32 hq42 rfl (g := (mkF m 101 #[.val (.ref (n0 + ob0)), .val (.int i1), .val (.int x3), .val (.int x6)] [(.int x3), (.int x41), (.ref (n0 + x37))])) rfl rfl (hb hby d10_101)
      refine Gl.on (B := T42.setTop (mkF m 102 #[.val (.ref (n0 + ob0)), .val (.int i1), .val (.int x3), .val (.int x6)] [])) (fun t k => ?_) ?_
      · show Steps p.tables e below (T34.setTop (mkF m 87 #[.val (.ref (n0 + ob0)), .val (.int i1), .val (.int x3), .val (.int x6)] [(.int (-1 : Int32)), (.int x35)])) _
        refine XS.icmpNo X34.here hx rfl (hb hby d10_87) rfl (feq hc36).1 ?_
        show Steps p.tables e below (T34.setTop (mkF m 90 #[.val (.ref (n0 + ob0)), .val (.int i1), .val (.int x3), .val (.int x6)] [])) _
        refine XS.aloadN X34.here hx rfl (hb hby d10_90) rfl rfl ?_
        show Steps p.tables e below (T34.setTop (mkF m 91 #[.val (.ref (n0 + ob0)), .val (.int i1), .val (.int x3), .val (.int x6)] [(.ref (n0 + ob0))])) _
        refine st38 _ ?_
        show Steps p.tables e below (T38.setTop (mkF m 94 #[.val (.ref (n0 + ob0)), .val (.int i1), .val (.int x3), .val (.int x6)] [(.ref (n0 + x37))])) _
        refine XS.aloadN X38.here hx rfl (hb hby d10_94) rfl rfl ?_
        show Steps p.tables e below (T38.setTop (mkF m 95 #[.val (.ref (n0 + ob0)), .val (.int i1), .val (.int x3), .val (.int x6)] [(.ref (n0 + ob0)), (.ref (n0 + x37))])) _
        refine st40 _ ?_
        show Steps p.tables e below (T40.setTop (mkF m 98 #[.val (.ref (n0 + ob0)), .val (.int i1), .val (.int x3), .val (.int x6)] [(.ref (n0 + x39)), (.ref (n0 + x37))])) _
        refine XS.iloadN X40.here hx rfl (hb hby d10_98) rfl ?_
        show Steps p.tables e below (T40.setTop (mkF m 99 #[.val (.ref (n0 + ob0)), .val (.int i1), .val (.int x3), .val (.int x6)] [(.int i1), (.ref (n0 + x39)), (.ref (n0 + x37))])) _
        refine ldW X40 hx hZ e40 O32 hx41 rfl (g := (mkF m 99 #[.val (.ref (n0 + ob0)), .val (.int i1), .val (.int x3), .val (.int x6)] [(.int i1), (.ref (n0 + x39)), (.ref (n0 + x37))])) rfl rfl (hb hby d10_99) _ ?_
        show Steps p.tables e below (T40.setTop (mkF m 100 #[.val (.ref (n0 + ob0)), .val (.int i1), .val (.int x3), .val (.int x6)] [(.int x41), (.ref (n0 + x37))])) _
        refine XS.iloadN X40.here hx rfl (hb hby d10_100) rfl ?_
        show Steps p.tables e below (T40.setTop (mkF m 101 #[.val (.ref (n0 + ob0)), .val (.int i1), .val (.int x3), .val (.int x6)] [(.int x3), (.int x41), (.ref (n0 + x37))])) _
        refine st42 _ ?_
        exact k
      exact bt10_102 hw hC X42 e42 O42 N42 (by omega) (by omega) hf
theorem pd_5 : parseMethodDescriptor "(I)I" = some ⟨[.int], some .int⟩ := by decide +kernel
theorem pd_6 : parseMethodDescriptor "(I)V" = some ⟨[.int], none⟩ := by decide +kernel
theorem d4_0 : decode prog_99_method_7_code 0 = .ok (.aload_n 0, 1) := by decide +kernel
theorem d4_1 : decode prog_99_method_7_code 1 = .ok (.iload_n 2, 1) := by decide +kernel
theorem d4_2 : decode prog_99_method_7_code 2 = .ok (.invokevirtual 67, 3) := by decide +kernel
theorem d4_5 : decode prog_99_method_7_code 5 = .ok (.istore_n 3, 1) := by decide +kernel
theorem d4_6 : decode prog_99_method_7_code 6 = .ok (.iload_n 1, 1) := by decide +kernel
theorem d4_7 : decode prog_99_method_7_code 7 = .ok (.iconst (-1), 1) := by decide +kernel
theorem d4_8 : decode prog_99_method_7_code 8 = .ok (.if_icmp .ne 7, 3) := by decide +kernel
theorem d4_11 : decode prog_99_method_7_code 11 = .ok (.iconst (-1), 1) := by decide +kernel
theorem d4_12 : decode prog_99_method_7_code 12 = .ok (.goto 9, 3) := by decide +kernel
theorem d4_15 : decode prog_99_method_7_code 15 = .ok (.aload_n 0, 1) := by decide +kernel
theorem d4_16 : decode prog_99_method_7_code 16 = .ok (.getfield 48, 3) := by decide +kernel
theorem d4_19 : decode prog_99_method_7_code 19 = .ok (.iload_n 1, 1) := by decide +kernel
theorem d4_20 : decode prog_99_method_7_code 20 = .ok (.iaload, 1) := by decide +kernel
theorem d4_21 : decode prog_99_method_7_code 21 = .ok (.istore 4, 2) := by decide +kernel
theorem d4_23 : decode prog_99_method_7_code 23 = .ok (.iload_n 1, 1) := by decide +kernel
theorem d4_24 : decode prog_99_method_7_code 24 = .ok (.iconst (-1), 1) := by decide +kernel
theorem d4_25 : decode prog_99_method_7_code 25 = .ok (.if_icmp .ne 10, 3) := by decide +kernel
theorem d4_28 : decode prog_99_method_7_code 28 = .ok (.aload_n 0, 1) := by decide +kernel
theorem d4_29 : decode prog_99_method_7_code 29 = .ok (.getfield 35, 3) := by decide +kernel
theorem d4_32 : decode prog_99_method_7_code 32 = .ok (.goto 10, 3) := by decide +kernel
theorem d4_35 : decode prog_99_method_7_code 35 = .ok (.aload_n 0, 1) := by decide +kernel
theorem d4_36 : decode prog_99_method_7_code 36 = .ok (.getfield 28, 3) := by decide +kernel
theorem d4_39 : decode prog_99_method_7_code 39 = .ok (.iload 4, 2) := by decide +kernel
theorem d4_41 : decode prog_99_method_7_code 41 = .ok (.iaload, 1) := by decide +kernel
theorem d4_42 : decode prog_99_method_7_code 42 = .ok (.istore 5, 2) := by decide +kernel
theorem d4_44 : decode prog_99_method_7_code 44 = .ok (.aload_n 0, 1) := by decide +kernel
theorem d4_45 : decode prog_99_method_7_code 45 = .ok (.getfield 31, 3) := by decide +kernel
theorem d4_48 : decode prog_99_method_7_code 48 = .ok (.iconst (-1), 1) := by decide +kernel
theorem d4_49 : decode prog_99_method_7_code 49 = .ok (.if_icmp .ne 11, 3) := by decide +kernel
theorem d4_52 : decode prog_99_method_7_code 52 = .ok (.aload_n 0, 1) := by decide +kernel
theorem d4_53 : decode prog_99_method_7_code 53 = .ok (.iload_n 3, 1) := by decide +kernel
theorem d4_54 : decode prog_99_method_7_code 54 = .ok (.putfield 31, 3) := by decide +kernel
theorem d4_57 : decode prog_99_method_7_code 57 = .ok (.goto 55, 3) := by decide +kernel
theorem d4_60 : decode prog_99_method_7_code 60 = .ok (.iload 4, 2) := by decide +kernel
theorem d4_62 : decode prog_99_method_7_code 62 = .ok (.iconst (-1), 1) := by decide +kernel
theorem d4_63 : decode prog_99_method_7_code 63 = .ok (.if_icmp .eq 33, 3) := by decide +kernel
theorem d4_66 : decode prog_99_method_7_code 66 = .ok (.aload_n 0, 1) := by decide +kernel
theorem d4_67 : decode prog_99_method_7_code 67 = .ok (.getfield 16, 3) := by decide +kernel
theorem d4_70 : decode prog_99_method_7_code 70 = .ok (.iload 4, 2) := by decide +kernel
theorem d4_72 : decode prog_99_method_7_code 72 = .ok (.iaload, 1) := by decide +kernel
theorem d4_73 : decode prog_99_method_7_code 73 = .ok (.iconst (-1), 1) := by decide +kernel
theorem d4_74 : decode prog_99_method_7_code 74 = .ok (.if_icmp .ne 22, 3) := by decide +kernel
theorem d4_77 : decode prog_99_method_7_code 77 = .ok (.aload_n 0, 1) := by decide +kernel
theorem d4_78 : decode prog_99_method_7_code 78 = .ok (.getfield 16, 3) := by decide +kernel
theorem d4_81 : decode prog_99_method_7_code 81 = .ok (.iload 4, 2) := by decide +kernel
theorem d4_83 : decode prog_99_method_7_code 83 = .ok (.iload_n 3, 1) := by decide +kernel
theorem d4_84 : decode prog_99_method_7_code 84 = .ok (.iastore, 1) := by decide +kernel
theorem d4_85 : decode prog_99_method_7_code 85 = .ok (.aload_n 0, 1) := by decide +kernel
theorem d4_86 : decode prog_99_method_7_code 86 = .ok (.getfield 19, 3) := by decide +kernel
theorem d4_89 : decode prog_99_method_7_code 89 = .ok (.iload_n 3, 1) := by decide +kernel
theorem d4_90 : decode prog_99_method_7_code 90 = .ok (.iload 4, 2) := by decide +kernel
theorem d4_92 : decode prog_99_method_7_code 92 = .ok (.iastore, 1) := by decide +kernel
theorem d4_93 : decode prog_99_method_7_code 93 = .ok (.goto 19, 3) := by decide +kernel
theorem d4_96 : decode prog_99_method_7_code 96 = .ok (.aload_n 0, 1) := by decide +kernel
theorem d4_97 : decode prog_99_method_7_code 97 = .ok (.getfield 13, 3) := by decide +kernel
theorem d4_100 : decode prog_99_method_7_code 100 = .ok (.iload 5, 2) := by decide +kernel
theorem d4_102 : decode prog_99_method_7_code 102 = .ok (.iload_n 3, 1) := by decide +kernel
theorem d4_103 : decode prog_99_method_7_code 103 = .ok (.iastore, 1) := by decide +kernel
theorem d4_104 : decode prog_99_method_7_code 104 = .ok (.aload_n 0, 1) := by decide +kernel
theorem d4_105 : decode prog_99_method_7_code 105 = .ok (.getfield 19, 3) := by decide +kernel
theorem d4_108 : decode prog_99_method_7_code 108 = .ok (.iload_n 3, 1) := by decide +kernel
theorem d4_109 : decode prog_99_method_7_code 109 = .ok (.iload 5, 2) := by decide +kernel
theorem d4_111 : decode prog_99_method_7_code 111 = .ok (.iastore, 1) := by decide +kernel
theorem d4_112 : decode prog_99_method_7_code 112 = .ok (.aload_n 0, 1) := by decide +kernel
theorem d4_113 : decode prog_99_method_7_code 113 = .ok (.getfield 19, 3) := by decide +kernel
theorem d4_116 : decode prog_99_method_7_code 116 = .ok (.iload_n 3, 1) := by decide +kernel
theorem d4_117 : decode prog_99_method_7_code 117 = .ok (.iaload, 1) := by decide +kernel
theorem d4_118 : decode prog_99_method_7_code 118 = .ok (.iconst (-1), 1) := by decide +kernel
theorem d4_119 : decode prog_99_method_7_code 119 = .ok (.if_icmp .eq 31, 3) := by decide +kernel
theorem d4_122 : decode prog_99_method_7_code 122 = .ok (.aload_n 0, 1) := by decide +kernel
theorem d4_123 : decode prog_99_method_7_code 123 = .ok (.getfield 22, 3) := by decide +kernel
theorem d4_126 : decode prog_99_method_7_code 126 = .ok (.iload_n 3, 1) := by decide +kernel
theorem d4_127 : decode prog_99_method_7_code 127 = .ok (.iaload, 1) := by decide +kernel
theorem d4_128 : decode prog_99_method_7_code 128 = .ok (.aload_n 0, 1) := by decide +kernel
theorem d4_129 : decode prog_99_method_7_code 129 = .ok (.getfield 22, 3) := by decide +kernel
theorem d4_132 : decode prog_99_method_7_code 132 = .ok (.aload_n 0, 1) := by decide +kernel
theorem d4_133 : decode prog_99_method_7_code 133 = .ok (.getfield 19, 3) := by decide +kernel
theorem d4_136 : decode prog_99_method_7_code 136 = .ok (.iload_n 3, 1) := by decide +kernel
theorem d4_137 : decode prog_99_method_7_code 137 = .ok (.iaload, 1) := by decide +kernel
theorem d4_138 : decode prog_99_method_7_code 138 = .ok (.iaload, 1) := by decide +kernel
theorem d4_139 : decode prog_99_method_7_code 139 = .ok (.if_icmp .le 11, 3) := by decide +kernel
theorem d4_142 : decode prog_99_method_7_code 142 = .ok (.aload_n 0, 1) := by decide +kernel
theorem d4_143 : decode prog_99_method_7_code 143 = .ok (.iload_n 3, 1) := by decide +kernel
theorem d4_144 : decode prog_99_method_7_code 144 = .ok (.invokevirtual 70, 3) := by decide +kernel
theorem d4_147 : decode prog_99_method_7_code 147 = .ok (.goto (-35), 3) := by decide +kernel
theorem d4_150 : decode prog_99_method_7_code 150 = .ok (.aload_n 0, 1) := by decide +kernel
theorem d4_151 : decode prog_99_method_7_code 151 = .ok (.getfield 25, 3) := by decide +kernel
theorem d4_154 : decode prog_99_method_7_code 154 = .ok (.iload_n 3, 1) := by decide +kernel
theorem d4_155 : decode prog_99_method_7_code 155 = .ok (.iload 4, 2) := by decide +kernel
theorem d4_157 : decode prog_99_method_7_code 157 = .ok (.iastore, 1) := by decide +kernel
theorem d4_158 : decode prog_99_method_7_code 158 = .ok (.aload_n 0, 1) := by decide +kernel
theorem d4_159 : decode prog_99_method_7_code 159 = .ok (.getfield 28, 3) := by decide +kernel
theorem d4_162 : decode prog_99_method_7_code 162 = .ok (.iload_n 3, 1) := by decide +kernel
theorem d4_163 : decode prog_99_method_7_code 163 = .ok (.iload 5, 2) := by decide +kernel
theorem d4_165 : decode prog_99_method_7_code 165 = .ok (.iastore, 1) := by decide +kernel
theorem d4_166 : decode prog_99_method_7_code 166 = .ok (.iload 4, 2) := by decide +kernel
theorem d4_168 : decode prog_99_method_7_code 168 = .ok (.iconst (-1), 1) := by decide +kernel
theorem d4_169 : decode prog_99_method_7_code 169 = .ok (.if_icmp .ne 11, 3) := by decide +kernel
theorem d4_172 : decode prog_99_method_7_code 172 = .ok (.aload_n 0, 1) := by decide +kernel
theorem d4_173 : decode prog_99_method_7_code 173 = .ok (.iload_n 3, 1) := by decide +kernel
theorem d4_174 : decode prog_99_method_7_code 174 = .ok (.putfield 35, 3) := by decide +kernel
theorem d4_177 : decode prog_99_method_7_code 177 = .ok (.goto 11, 3) := by decide +kernel
theorem d4_180 : decode prog_99_method_7_code 180 = .ok (.aload_n 0, 1) := by decide +kernel
theorem d4_181 : decode prog_99_method_7_code 181 = .ok (.getfield 28, 3) := by decide +kernel
theorem d4_184 : decode prog_99_method_7_code 184 = .ok (.iload 4, 2) := by decide +kernel
theorem d4_186 : decode prog_99_method_7_code 186 = .ok (.iload_n 3, 1) := by decide +kernel
theorem d4_187 : decode prog_99_method_7_code 187 = .ok (.iastore, 1) := by decide +kernel
theorem d4_188 : decode prog_99_method_7_code 188 = .ok (.iload 5, 2) := by decide +kernel
theorem d4_190 : decode prog_99_method_7_code 190 = .ok (.iconst (-1), 1) := by decide +kernel
theorem d4_191 : decode prog_99_method_7_code 191 = .ok (.if_icmp .ne 11, 3) := by decide +kernel
theorem d4_194 : decode prog_99_method_7_code 194 = .ok (.aload_n 0, 1) := by decide +kernel
theorem d4_195 : decode prog_99_method_7_code 195 = .ok (.iload_n 3, 1) := by decide +kernel
theorem d4_196 : decode prog_99_method_7_code 196 = .ok (.putfield 38, 3) := by decide +kernel
theorem d4_199 : decode prog_99_method_7_code 199 = .ok (.goto 11, 3) := by decide +kernel
theorem d4_202 : decode prog_99_method_7_code 202 = .ok (.aload_n 0, 1) := by decide +kernel
theorem d4_203 : decode prog_99_method_7_code 203 = .ok (.getfield 25, 3) := by decide +kernel
theorem d4_206 : decode prog_99_method_7_code 206 = .ok (.iload 5, 2) := by decide +kernel
theorem d4_208 : decode prog_99_method_7_code 208 = .ok (.iload_n 3, 1) := by decide +kernel
theorem d4_209 : decode prog_99_method_7_code 209 = .ok (.iastore, 1) := by decide +kernel
theorem d4_210 : decode prog_99_method_7_code 210 = .ok (.return_, 1) := by decide +kernel
theorem pn_4 : plainName "com/example/planar_drawing_kit/planardrawingkit/inspect/SweepLine" = true := by first | (simp [plainName, overriddenIn]; done) | decide +kernel
def b4_188 (D : Hp) (ob0 : Nat) (i3 : Int32) (i5 : Int32) : Option (Hp) :=
  if i5 = (-1 : Int32) then ((pV D ob0 1 9 (.int i3)).bind fun D63 =>
  some D63) else ((gR D ob0 1 5).bind fun x64 =>
  (wV D x64 0 i5 (.int i3)).bind fun D66 =>
  some D66)
set_option maxRecDepth 65536 in
set_option maxHeartbeats 40000000 in
theorem bt4_188 {p : Program} {l : Launch} {e : Env} {s : State} {m : MethodId} {args : Array Value} {below : List Frame} {meth : Method} {c : Code} {Z : State} {a0 : Array Value} {n0 : Nat} {D' : Hp} {T0 : State} {locs : List Loc} {cells slots : Nat} {h0 : Heap} {D : Hp} {ob0 : Nat} {i1 : Int32} {i2 : Int32} {i3 : Int32} {i4 : Int32} {i5 : Int32} (hw : ∀ d ∈ tables_1, d.before a0 Z = true) (hC : Cx p s m meth c Z prog_99_method_7_code 6 none "com/example/planar_drawing_kit/planardrawingkit/inspect/SweepLine" "insertAbove") (X0 : Stand p l e ({ frames := 4, cells := 7, slots := 112, locals := 61 } : Room) s m args below meth c T0 locs cells slots) (e0 : T0.heap = h0) (O0 : Ow Kt1 Z h0 n0 D) (N0 : Fr n0 locs) (hcc : cells ≤ 7) (hss : slots ≤ 112) (hf : b4_188 D ob0 i3 i5 = some D') : Gl p e below s 7 112 (Qw Kt1 Z n0 none D') (T0.setTop (mkF m 188 #[.val (.ref (n0 + ob0)), .val (.int i1), .val (.int i2), .val (.int i3), .val (.int i4), .val (.int i5)] [])) := by
  obtain ⟨hx, hZ, hby, hml, hown, hnm, hret, hlk⟩ := id hC
  have hml : c.maxLocals = 6 := hml
  rw [b4_188] at hf
  refine Gl.on (B := T0.setTop (mkF m 191 #[.val (.ref (n0 + ob0)), .val (.int i1), .val (.int i2), .val (.int i3), .val (.int i4), .val (.int i5)] [(.int (-1 : Int32)), (.int i5)])) (fun t k => ?_) ?_
  · show Steps p.tables e below (T0.setTop (mkF m 188 #[.val (.ref (n0 + ob0)), .val (.int i1), .val (.int i2), .val (.int i3), .val (.int i4), .val (.int i5)] [])) _
    refine XS.iload X0.here hx rfl (hb hby d4_188) rfl ?_
    show Steps p.tables e below (T0.setTop (mkF m 190 #[.val (.ref (n0 + ob0)), .val (.int i1), .val (.int i2), .val (.int i3), .val (.int i4), .val (.int i5)] [(.int i5)])) _
    refine XS.iconst X0.here hx rfl (hb hby d4_190) ?_
    exact k
  by_cases hc62 : i5 = (-1 : Int32)
  · rw [if_pos hc62] at hf
    obtain ⟨D63, hq63, hf⟩ := own_bind hf
    obtain ⟨T63, h63, L63, X63, e63, O63, N63, st63⟩ := putW X0 hx hZ hown (hw _ (List.mem_of_getElem? (i := 29) rfl)) (lay1 hw) e0 O0 N0 hq63 rfl rfl (Or.inl (hw _ (List.mem_of_getElem? (i := 30) rfl))) (hw _ (List.mem_of_getElem? (i := 2) rfl)) (ty := .int) (by decide) rfl rfl (g := (mkF m 196 #[.val (.ref (n0 + ob0)), .val (.int i1), .val (.int i2), .val (.int i3), .val (.int i4), .val (.int i5)] [(.int i3), (.ref (n0 + ob0))])) rfl rfl (hb hby d4_196)
    refine Gl.on (B := T63.setTop (mkF m 210 #[.val (.ref (n0 + ob0)), .val (.int i1), .val (.int i2), .val (.int i3), .val (.int i4), .val (.int i5)] [])) (fun t k => ?_) ?_
    · show Steps p.tables e below (T0.setTop (mkF m 191 #[.val (.ref (n0 + ob0)), .val (.int i1), .val (.int i2), .val (.int i3), .val (.int i4), .val (.int i5)] [(.int (-1 : Int32)), (.int i5)])) _
      refine XS.icmpNo X0.here hx rfl (hb hby d4_191) rfl (teq hc62).2 ?_
      show Steps p.tables e below (T0.setTop (mkF m 194 #[.val (.ref (n0 + ob0)), .val (.int i1), .val (.int i2), .val (.int i3), .val (.int i4), .val (.int i5)] [])) _
      refine XS.aloadN X0.here hx rfl (hb hby d4_194) rfl rfl ?_
      show Steps p.tables e below (T0.setTop (mkF m 195 #[.val (.ref (n0 + ob0)), .val (.int i1), .val (.int i2), .val (.int i3), .val (.int i4), .val (.int i5)] [(.ref (n0 + ob0))])) _
      refine XS.iloadN X0.here hx rfl (hb hby d4_195) rfl ?_
      show Steps p.tables e below (T0.setTop (mkF m 196 #[.val (.ref (n0 + ob0)), .val (.int i1), .val (.int i2), .val (.int i3), .val (.int i4), .val (.int i5)] [(.int i3), (.ref (n0 + ob0))])) _
      refine st63 _ ?_
      show Steps p.tables e below (T63.setTop (mkF m 199 #[.val (.ref (n0 + ob0)), .val (.int i1), .val (.int i2), .val (.int i3), .val (.int i4), .val (.int i5)] [])) _
      refine XS.goto X63.here hx rfl (pc0 := 199) (pc' := 210) rfl (hb hby d4_199) (by decide) (by decide) ?_
      exact k
    obtain rfl := own_inj1 hf
    exact Gl.outV X63 hx hlk hret (hb hby d4_210) ⟨rfl, N63, by rw [e63]; exact O63⟩ (by show _ ≤ 7; omega) (by show _ ≤ 112; omega)
  · rw [if_neg hc62] at hf
    obtain ⟨x64, hx64, hf⟩ := own_bind hf
    obtain ⟨T65, X65, e65, st65⟩ := getF X0 hx hZ hown (host := "") (Or.inl (hw _ (List.mem_of_getElem? (i := 21) rfl))) Via.refl e0 (O0.fld (gR_e hx64) rfl rfl) (g := (mkF m 203 #[.val (.ref (n0 + ob0)), .val (.int i1), .val (.int i2), .val (.int i3), .val (.int i4), .val (.int i5)] [(.ref (n0 + ob0))])) rfl rfl (hb hby d4_203)
    obtain ⟨D66, hq66, hf⟩ := own_bind hf
    obtain ⟨T66, h66, L66, X66, e66, O66, N66, st66⟩ := stIW X65 hx hZ e65 O0 N0 hq66 rfl (g := (mkF m 209 #[.val (.ref (n0 + ob0)), .val (.int i1), .val (.int i2), .val (.int i3), .val (.int i4), .val (.int i5)] [(.int i3), (.int i5), (.ref (n0 + x64))])) rfl rfl (hb hby d4_209)
    refine Gl.on (B := T66.setTop (mkF m 210 #[.val (.ref (n0 + ob0)), .val (.int i1), .val (.int i2), .val (.int i3), .val (.int i4), .val (.int i5)] [])) (fun t k => ?_) ?_
    · show Steps p.tables e below (T0.setTop (mkF m 191 #[.val (.ref (n0 + ob0)), .val (.int i1), .val (.int i2), .val (.int i3), .val (.int i4), .val (.int i5)] [(.int (-1 : Int32)), (.int i5)])) _
      refine XS.icmpYes X0.here hx rfl (pc0 := 191) (pc' := 202) rfl (hb hby d4_191) rfl (feq hc62).2 (by decide) (by decide) ?_
      show Steps p.tables e below (T0.setTop (mkF m 202 #[.val (.ref (n0 + ob0)), .val (.int i1), .val (.int i2), .val (.int i3), .val (.int i4), .val (.int i5)] [])) _
      refine XS.aloadN X0.here hx rfl (hb hby d4_202) rfl rfl ?_
      show Steps p.tables e below (T0.setTop (mkF m 203 #[.val (.ref (n0 + ob0)), .val (.int i1), .val (.int i2), .val (.int i3), .val (.int i4), .val (.int i5)] [(.ref (n0 + ob0))])) _
      refine st65 _ ?_
      show Steps p.tables e below (T65.setTop (mkF m 206 #[.val (.ref (n0 + ob0)), .val (.int i1), .val (.int i2), .val (.int i3), .val (.int i4), .val (.int i5)] [(.ref (n0 + x64))])) _
      refine XS.iload X65.here hx rfl (hb hby d4_206) rfl ?_
      show Steps p.tables e below (T65.setTop (mkF m 208 #[.val (.ref (n0 + ob0)), .val (.int i1), .val (.int i2), .val (.int i3), .val (.int i4), .val (.int i5)] [(.int i5), (.ref (n0 + x64))])) _
      refine XS.iloadN X65.here hx rfl (hb hby d4_208) rfl ?_
      show Steps p.tables e below (T65.setTop (mkF m 209 #[.val (.ref (n0 + ob0)), .val (.int i1), .val (.int i2), .val (.int i3), .val (.int i4), .val (.int i5)] [(.int i3), (.int i5), (.ref (n0 + x64))])) _
      refine st66 _ ?_
      exact k
    obtain rfl := own_inj1 hf
    exact Gl.outV X66 hx hlk hret (hb hby d4_210) ⟨rfl, N66, by rw [e66]; exact O66⟩ (by show _ ≤ 7; omega) (by show _ ≤ 112; omega)
def b4_150 (D : Hp) (ob0 : Nat) (i3 : Int32) (i4 : Int32) (i5 : Int32) : Option (Hp) :=
  (gR D ob0 1 5).bind fun x51 =>
  (wV D x51 0 i3 (.int i4)).bind fun D53 =>
  (gR D53 ob0 1 6).bind fun x54 =>
  (wV D53 x54 0 i3 (.int i5)).bind fun D56 =>
  if i4 = (-1 : Int32) then ((pV D56 ob0 1 8 (.int i3)).bind fun D58 =>
  b4_188 D58 ob0 i3 i5) else ((gR D56 ob0 1 6).bind fun x59 =>
  (wV D56 x59 0 i4 (.int i3)).bind fun D61 =>
  b4_188 D61 ob0 i3 i5)
set_option maxRecDepth 65536 in
set_option maxHeartbeats 40000000 in
theorem bt4_150 {p : Program} {l : Launch} {e : Env} {s : State} {m : MethodId} {args : Array Value} {below : List Frame} {meth : Method} {c : Code} {Z : State} {a0 : Array Value} {n0 : Nat} {D' : Hp} {T0 : State} {locs : List Loc} {cells slots : Nat} {h0 : Heap} {D : Hp} {ob0 : Nat} {i1 : Int32} {i2 : Int32} {i3 : Int32} {i4 : Int32} {i5 : Int32} (hw : ∀ d ∈ tables_1, d.before a0 Z = true) (hC : Cx p s m meth c Z prog_99_method_7_code 6 none "com/example/planar_drawing_kit/planardrawingkit/inspect/SweepLine" "insertAbove") (X0 : Stand p l e ({ frames := 4, cells := 7, slots := 112, locals := 61 } : Room) s m args below meth c T0 locs cells slots) (e0 : T0.heap = h0) (O0 : Ow Kt1 Z h0 n0 D) (N0 : Fr n0 locs) (hcc : cells ≤ 7) (hss : slots ≤ 112) (hf : b4_150 D ob0 i3 i4 i5 = some D') : Gl p e below s 7 112 (Qw Kt1 Z n0 none D') (T0.setTop (mkF m 150 #[.val (.ref (n0 + ob0)), .val (.int i1), .val (.int i2), .val (.int i3), .val (.int i4), .val (.int i5)] [])) := by
  obtain ⟨hx, hZ, hby, hml, hown, hnm, hret, hlk⟩ := id hC
  have hml : c.maxLocals = 6 := hml
  rw [b4_150] at hf
  obtain ⟨x51, hx51, hf⟩ := own_bind hf
  obtain ⟨T52, X52, e52, st52⟩ := getF X0 hx hZ hown (host := "") (Or.inl (hw _ (List.mem_of_getElem? (i := 21) rfl))) Via.refl e0 (O0.fld (gR_e hx51) rfl rfl) (g := (mkF m 151 #[.val (.ref (n0 + ob0)), .val (.int i1), .val (.int i2), .val (.int i3), .val (.int i4), .val (.int i5)] [(.ref (n0 + ob0))])) rfl rfl (hb hby d4_151)
  obtain ⟨D53, hq53, hf⟩ := own_bind hf
  obtain ⟨T53, h53, L53, X53, e53, O53, N53, st53⟩ := stIW X52 hx hZ e52 O0 N0 hq53 rfl (g := (mkF m 157 #[.val (.ref (n0 + ob0)), .val (.int i1), .val (.int i2), .val (.int i3), .val (.int i4), .val (.int i5)] [(.int i4), (.int i3), (.ref (n0 + x51))])) rfl rfl (hb hby d4_157)
  obtain ⟨x54, hx54, hf⟩ := own_bind hf
  obtain ⟨T55, X55, e55, st55⟩ := getF X53 hx hZ hown (host := "") (Or.inl (hw _ (List.mem_of_getElem? (i := 23) rfl))) Via.refl e53 (O53.fld (gR_e hx54) rfl rfl) (g := (mkF m 159 #[.val (.ref (n0 + ob0)), .val (.int i1), .val (.int i2), .val (.int i3), .val (.int i4), .val (.int i5)] [(.ref (n0 + ob0))])) rfl rfl (hb hby d4_159)
  obtain ⟨D56, hq56, hf⟩ := own_bind hf
  obtain ⟨T56, h56, L56, X56, e56, O56, N56, st56⟩ := stIW X55 hx hZ e55 O53 N53 hq56 rfl (g := (mkF m 165 #[.val (.ref (n0 + ob0)), .val (.int i1), .val (.int i2), .val (.int i3), .val (.int i4), .val (.int i5)] [(.int i5), (.int i3), (.ref (n0 + x54))])) rfl rfl (hb hby d4_165)
  refine Gl.on (B := T56.setTop (mkF m 169 #[.val (.ref (n0 + ob0)), .val (.int i1), .val (.int i2), .val (.int i3), .val (.int i4), .val (.int i5)] [(.int (-1 : Int32)), (.int i4)])) (fun t k => ?_) ?_
  · show Steps p.tables e below (T0.setTop (mkF m 150 #[.val (.ref (n0 + ob0)), .val (.int i1), .val (.int i2), .val (.int i3), .val (.int i4), .val (.int i5)] [])) _
    refine XS.aloadN X0.here hx rfl (hb hby d4_150) rfl rfl ?_
    show Steps p.tables e below (T0.setTop (mkF m 151 #[.val (.ref (n0 + ob0)), .val (.int i1), .val (.int i2), .val (.int i3), .val (.int i4), .val (.int i5)] [(.ref (n0 + ob0))])) _
    refine st52 _ ?_
    show Steps p.tables e below (T52.setTop (mkF m 154 #[.val (.ref (n0 + ob0)), .val (.int i1), .val (.int i2), .val (.int i3), .val (.int i4), .val (.int i5)] [(.ref (n0 + x51))])) _
    refine XS.iloadN X52.here hx rfl (hb hby d4_154) rfl ?_
    show Steps p.tables e below (T52.setTop (mkF m 155 #[.val (.ref (n0 + ob0)), .val (.int i1), .val (.int i2), .val (.int i3), .val (.int i4), .val (.int i5)] [(.int i3), (.ref (n0 + x51))])) _
    refine XS.iload X52.here hx rfl (hb hby d4_155) rfl ?_
    show Steps p.tables e below (T52.setTop (mkF m 157 #[.val (.ref (n0 + ob0)), .val (.int i1), .val (.int i2), .val (.int i3), .val (.int i4), .val (.int i5)] [(.int i4), (.int i3), (.ref (n0 + x51))])) _
    refine st53 _ ?_
    show Steps p.tables e below (T53.setTop (mkF m 158 #[.val (.ref (n0 + ob0)), .val (.int i1), .val (.int i2), .val (.int i3), .val (.int i4), .val (.int i5)] [])) _
    refine XS.aloadN X53.here hx rfl (hb hby d4_158) rfl rfl ?_
    show Steps p.tables e below (T53.setTop (mkF m 159 #[.val (.ref (n0 + ob0)), .val (.int i1), .val (.int i2), .val (.int i3), .val (.int i4), .val (.int i5)] [(.ref (n0 + ob0))])) _
    refine st55 _ ?_
    show Steps p.tables e below (T55.setTop (mkF m 162 #[.val (.ref (n0 + ob0)), .val (.int i1), .val (.int i2), .val (.int i3), .val (.int i4), .val (.int i5)] [(.ref (n0 + x54))])) _
    refine XS.iloadN X55.here hx rfl (hb hby d4_162) rfl ?_
    show Steps p.tables e below (T55.setTop (mkF m 163 #[.val (.ref (n0 + ob0)), .val (.int i1), .val (.int i2), .val (.int i3), .val (.int i4), .val (.int i5)] [(.int i3), (.ref (n0 + x54))])) _
    refine XS.iload X55.here hx rfl (hb hby d4_163) rfl ?_
    show Steps p.tables e below (T55.setTop (mkF m 165 #[.val (.ref (n0 + ob0)), .val (.int i1), .val (.int i2), .val (.int i3), .val (.int i4), .val (.int i5)] [(.int i5), (.int i3), (.ref (n0 + x54))])) _
    refine st56 _ ?_
    show Steps p.tables e below (T56.setTop (mkF m 166 #[.val (.ref (n0 + ob0)), .val (.int i1), .val (.int i2), .val (.int i3), .val (.int i4), .val (.int i5)] [])) _
    refine XS.iload X56.here hx rfl (hb hby d4_166) rfl ?_
    show Steps p.tables e below (T56.setTop (mkF m 168 #[.val (.ref (n0 + ob0)), .val (.int i1), .val (.int i2), .val (.int i3), .val (.int i4), .val (.int i5)] [(.int i4)])) _
    refine XS.iconst X56.here hx rfl (hb hby d4_168) ?_
    exact k
  by_cases hc57 : i4 = (-1 : Int32)
  · rw [if_pos hc57] at hf
    obtain ⟨D58, hq58, hf⟩ := own_bind hf
    obtain ⟨T58, h58, L58, X58, e58, O58, N58, st58⟩ := putW X56 hx hZ hown (hw _ (List.mem_of_getElem? (i := 27) rfl)) (lay1 hw) e56 O56 N56 hq58 rfl rfl (Or.inl (hw _ (List.mem_of_getElem? (i := 28) rfl))) (hw _ (List.mem_of_getElem? (i := 2) rfl)) (ty := .int) (by decide) rfl rfl (g := (mkF m 174 #[.val (.ref (n0 + ob0)), .val (.int i1), .val (.int i2), .val (.int i3), .val (.int i4), .val (.int i5)] [(.int i3), (.ref (n0 + ob0))])) rfl rfl (hb hby d4_174)
    refine Gl.on (B := T58.setTop (mkF m 188 #[.val (.ref (n0 + ob0)), .val (.int i1), .val (.int i2), .val (.int i3), .val (.int i4), .val (.int i5)] [])) (fun t k => ?_) ?_
    · show Steps p.tables e below (T56.setTop (mkF m 169 #[.val (.ref (n0 + ob0)), .val (.int i1), .val (.int i2), .val (.int i3), .val (.int i4), .val (.int i5)] [(.int (-1 : Int32)), (.int i4)])) _
      refine XS.icmpNo X56.here hx rfl (hb hby d4_169) rfl (teq hc57).2 ?_
      show Steps p.tables e below (T56.setTop (mkF m 172 #[.val (.ref (n0 + ob0)), .val (.int i1), .val (.int i2), .val (.int i3), .val (.int i4), .val (.int i5)] [])) _
      refine XS.aloadN X56.here hx rfl (hb hby d4_172) rfl rfl ?_
      show Steps p.tables e below (T56.setTop (mkF m 173 #[.val (.ref (n0 + ob0)), .val (.int i1), .val (.int i2), .val (.int i3), .val (.int i4), .val (.int i5)] [(.ref (n0 + ob0))])) _
      refine XS.iloadN X56.here hx rfl (hb hby d4_173) rfl ?_
      show Steps p.tables e below (T56.setTop (mkF m 174 #[.val (.ref (n0 + ob0)), .val (.int i1), .val (.int i2), .val (.int i3), .val (.int i4), .val (.int i5)] [(.int i3), (.ref (n0 + ob0))])) _
      refine st58 _ ?_
      show Steps p.tables e below (T58.setTop (mkF m 177 #[.val (.ref (n0 + ob0)), .val (.int i1), .val (.int i2), .val (.int i3), .val (.int i4), .val (.int i5)] [])) _
      refine XS.goto X58.here hx rfl (pc0 := 177) (pc' := 188) rfl (hb hby d4_177) (by decide) (by decide) ?_
      exact k
    exact bt4_188 hw hC X58 e58 O58 N58 (by omega) (by omega) hf
  · rw [if_neg hc57] at hf
    obtain ⟨x59, hx59, hf⟩ := own_bind hf
    obtain ⟨T60, X60, e60, st60⟩ := getF X56 hx hZ hown (host := "") (Or.inl (hw _ (List.mem_of_getElem? (i := 23) rfl))) Via.refl e56 (O56.fld (gR_e hx59) rfl rfl) (g := (mkF m 181 #[.val (.ref (n0 + ob0)), .val (.int i1), .val (.int i2), .val (.int i3), .val (.int i4), .val (.int i5)] [(.ref (n0 + ob0))])) rfl rfl (hb hby d4_181)
    obtain ⟨D61, hq61, hf⟩ := own_bind hf
    obtain ⟨T61, h61, L61, X61, e61, O61, N61, st61⟩ := stIW X60 hx hZ e60 O56 N56 hq61 rfl (g := (mkF m 187 #[.val (.ref (n0 + ob0)), .val (.int i1), .val (.int i2), .val (.int i3), .val (.int i4), .val (.int i5)] [(.int i3), (.int i4), (.ref (n0 + x59))])) rfl rfl (hb hby d4_187)
    refine Gl.on (B := T61.setTop (mkF m 188 #[.val (.ref (n0 + ob0)), .val (.int i1), .val (.int i2), .val (.int i3), .val (.int i4), .val (.int i5)] [])) (fun t k => ?_) ?_
    · show Steps p.tables e below (T56.setTop (mkF m 169 #[.val (.ref (n0 + ob0)), .val (.int i1), .val (.int i2), .val (.int i3), .val (.int i4), .val (.int i5)] [(.int (-1 : Int32)), (.int i4)])) _
      refine XS.icmpYes X56.here hx rfl (pc0 := 169) (pc' := 180) rfl (hb hby d4_169) rfl (feq hc57).2 (by decide) (by decide) ?_
      show Steps p.tables e below (T56.setTop (mkF m 180 #[.val (.ref (n0 + ob0)), .val (.int i1), .val (.int i2), .val (.int i3), .val (.int i4), .val (.int i5)] [])) _
      refine XS.aloadN X56.here hx rfl (hb hby d4_180) rfl rfl ?_
      show Steps p.tables e below (T56.setTop (mkF m 181 #[.val (.ref (n0 + ob0)), .val (.int i1), .val (.int i2), .val (.int i3), .val (.int i4), .val (.int i5)] [(.ref (n0 + ob0))])) _
      refine st60 _ ?_
      show Steps p.tables e below (T60.setTop (mkF m 184 #[.val (.ref (n0 + ob0)), .val (.int i1), .val (.int i2), .val (.int i3), .val (.int i4), .val (.int i5)] [(.ref (n0 + x59))])) _
      refine XS.iload X60.here hx rfl (hb hby d4_184) rfl ?_
      show Steps p.tables e below (T60.setTop (mkF m 186 #[.val (.ref (n0 + ob0)), .val (.int i1), .val (.int i2), .val (.int i3), .val (.int i4), .val (.int i5)] [(.int i4), (.ref (n0 + x59))])) _
      refine XS.iloadN X60.here hx rfl (hb hby d4_186) rfl ?_
      show Steps p.tables e below (T60.setTop (mkF m 187 #[.val (.ref (n0 + ob0)), .val (.int i1), .val (.int i2), .val (.int i3), .val (.int i4), .val (.int i5)] [(.int i3), (.int i4), (.ref (n0 + x59))])) _
      refine st61 _ ?_
      exact k
    exact bt4_188 hw hC X61 e61 O61 N61 (by omega) (by omega) hf
def b4_112 : Nat → Hp → Nat → Int32 → Int32 → Int32 → Option (Hp)
  | 0, _, _, _, _, _ => none
  | fu + 1, D, ob0, i3, i4, i5 =>
  (gR D ob0 1 3).bind fun x35 =>
  (rI D x35 0 i3).bind fun x37 =>
  if x37 = (-1 : Int32) then (b4_150 D ob0 i3 i4 i5) else ((gR D ob0 1 4).bind fun x39 =>
  (rI D x39 0 i3).bind fun x41 =>
  (gR D ob0 1 4).bind fun x42 =>
  (gR D ob0 1 3).bind fun x44 =>
  (rI D x44 0 i3).bind fun x46 =>
  (rI D x42 0 x46).bind fun x47 =>
  if x47 < x41 then ((ck D ob0 1).bind fun u50 => (f10 D ob0 i3).bind fun D49 =>
  b4_112 fu D49 ob0 i3 i4 i5) else (b4_150 D ob0 i3 i4 i5))
set_option maxRecDepth 65536 in
set_option maxHeartbeats 40000000 in
theorem bt4_112 {p : Program} {l : Launch} {e : Env} {s : State} {m : MethodId} {args : Array Value} {below : List Frame} {meth : Method} {c : Code} {Z : State} {a0 : Array Value} {n0 : Nat} {D' : Hp} (hw : ∀ d ∈ tables_1, d.before a0 Z = true) (hC : Cx p s m meth c Z prog_99_method_7_code 6 none "com/example/planar_drawing_kit/planardrawingkit/inspect/SweepLine" "insertAbove") (fu : Nat) : ∀ {T0 : State} {locs : List Loc} {cells slots : Nat} {h0 : Heap} {D : Hp} {ob0 : Nat} {i1 : Int32} {i2 : Int32} {i3 : Int32} {i4 : Int32} {i5 : Int32}, (Stand p l e ({ frames := 4, cells := 7, slots := 112, locals := 61 } : Room) s m args below meth c T0 locs cells slots) → (T0.heap = h0) → (Ow Kt1 Z h0 n0 D) → (Fr n0 locs) → (cells ≤ 7) → (slots ≤ 112) → (b4_112 fu D ob0 i3 i4 i5 = some D') → Gl p e below s 7 112 (Qw Kt1 Z n0 none D') (T0.setTop (mkF m 112 #[.val (.ref (n0 + ob0)), .val (.int i1), .val (.int i2), .val (.int i3), .val (.int i4), .val (.int i5)] [])) := by
  obtain ⟨hx, hZ, hby, hml, hown, hnm, hret, hlk⟩ := id hC
  have hml : c.maxLocals = 6 := hml
  induction fu with
  | zero => intro T0 locs cells slots h0 D ob0 i1 i2 i3 i4 i5 X0 e0 O0 N0 hcc hss hf; cases hf
  | succ fu ih =>
    intro T0 locs cells slots h0 D ob0 i1 i2 i3 i4 i5 X0 e0 O0 N0 hcc hss hf
    rw [b4_112] at hf
    obtain ⟨x35, hx35, hf⟩ := own_bind hf
    obtain ⟨T36, X36, e36, st36⟩ := getF X0 hx hZ hown (host := "") (Or.inl (hw _ (List.mem_of_getElem? (i := 17) rfl))) Via.refl e0 (O0.fld (gR_e hx35) rfl rfl) (g := (mkF m 113 #[.val (.ref (n0 + ob0)), .val (.int i1), .val (.int i2), .val (.int i3), .val (.int i4), .val (.int i5)] [(.ref (n0 + ob0))])) rfl rfl (hb hby d4_113)
    obtain ⟨x37, hx37, hf⟩ := own_bind hf
    refine Gl.on (B := T36.setTop (mkF m 119 #[.val (.ref (n0 + ob0)), .val (.int i1), .val (.int i2), .val (.int i3), .val (.int i4), .val (.int i5)] [(.int (-1 : Int32)), (.int x37)])) (fun t k => ?_) ?_
    · show Steps p.tables e below (T0.setTop (mkF m 112 #[.val (.ref (n0 + ob0)), .val (.int i1), .val (.int i2), .val (.int i3), .val (.int i4), .val (.int i5)] [])) _
      refine XS.aloadN X0.here hx rfl (hb hby d4_112) rfl rfl ?_
      show Steps p.tables e below (T0.setTop (mkF m 113 #[.val (.ref (n0 + ob0)), .val (.int i1), .val (.int i2), .val (.int i3), .val (.int i4), .val (.int i5)] [(.ref (n0 + ob0))])) _
      refine st36 _ ?_
      show Steps p.tables e below (T36.setTop (mkF m 116 #[.val (.ref (n0 + ob0)), .val (.int i1), .val (.int i2), .val (.int i3), .val (.int i4), .val (.int i5)] [(.ref (n0 + x35))])) _
      refine XS.iloadN X36.here hx rfl (hb hby d4_116) rfl ?_
      show Steps p.tables e below (T36.setTop (mkF m 117 #[.val (.ref (n0 + ob0)), .val (.int i1), .val (.int i2), .val (.int i3), .val (.int i4), .val (.int i5)] [(.int i3), (.ref (n0 + x35))])) _
      refine ldW X36 hx hZ e36 O0 hx37 rfl (g := (mkF m 117 #[.val (.ref (n0 + ob0)), .val (.int i1), .val (.int i2), .val (.int i3), .val (.int i4), .val (.int i5)] [(.int i3), (.ref (n0 + x35))])) rfl rfl (hb hby d4_117) _ ?_
      show Steps p.tables e below (T36.setTop (mkF m 118 #[.val (.ref (n0 + ob0)), .val (.int i1), .val (.int i2), .val (.int i3), .val (.int i4), .val (.int i5)] [(.int x37)])) _
      refine XS.iconst X36.here hx rfl (hb hby d4_118) ?_
      exact k
    by_cases hc38 : x37 = (-1 : Int32)
    · rw [if_pos hc38] at hf
      refine Gl.on (B := T36.setTop (mkF m 150 #[.val (.ref (n0 + ob0)), .val (.int i1), .val (.int i2), .val (.int i3), .val (.int i4), .val (.int i5)] [])) (fun t k => ?_) ?_
      · show Steps p.tables e below (T36.setTop (mkF m 119 #[.val (.ref (n0 + ob0)), .val (.int i1), .val (.int i2), .val (.int i3), .val (.int i4), .val (.int i5)] [(.int (-1 : Int32)), (.int x37)])) _
        refine XS.icmpYes X36.here hx rfl (pc0 := 119) (pc' := 150) rfl (hb hby d4_119) rfl (teq hc38).1 (by decide) (by decide) ?_
        exact k
      exact bt4_150 hw hC X36 e36 O0 N0 (by omega) (by omega) hf
    · rw [if_neg hc38] at hf
      obtain ⟨x39, hx39, hf⟩ := own_bind hf
      obtain ⟨T40, X40, e40, st40⟩ := getF X36 hx hZ hown (host := "") (Or.inl (hw _ (List.mem_of_getElem? (i := 19) rfl))) Via.refl e36 (O0.fld (gR_e hx39) rfl rfl) (g := (mkF m 123 #[.val (.ref (n0 + ob0)), .val (.int i1), .val (.int i2), .val (.int i3), .val (.int i4), .val (.int i5)] [(.ref (n0 + ob0))])) rfl rfl (hb hby d4_123)
      obtain ⟨x41, hx41, hf⟩ := own_bind hf
      obtain ⟨x42, hx42, hf⟩ := own_bind hf
      obtain ⟨T43, X43, e43, st43⟩ := getF X40 hx hZ hown (host := "") (Or.inl (hw _ (List.mem_of_getElem? (i := 19) rfl))) Via.refl e40 (O0.fld (gR_e hx42) rfl rfl) (g := (mkF m 129 #[.val (.ref (n0 + ob0)), .val (.int i1), .val (.int i2), .val (.int i3), .val (.int i4), .val (.int i5)] [(.ref (n0 + ob0)), (.int x41)])) rfl rfl (hb hby d4_129)
      obtain ⟨x44, hx44, hf⟩ := own_bind hf
      obtain ⟨T45, X45, e45, st45⟩ := getF X43 hx hZ hown (host := "") (Or.inl (hw _ (List.mem_of_getElem? (i := 17) rfl))) Via.refl e43 (O0.fld (gR_e hx44) rfl rfl) (g := (mkF m 133 #[.val (.ref (n0 + ob0)), .val (.int i1), .val (.int i2), .val (.int i3), .val (.int i4), .val (.int i5)] [(.ref (n0 + ob0)), (.ref (n0 + x42)), (.int x41)])) rfl rfl (hb hby d4_133)
      obtain ⟨x46, hx46, hf⟩ := own_bind hf
      obtain ⟨x47, hx47, hf⟩ := own_bind hf
      refine Gl.on (B := T45.setTop (mkF m 139 #[.val (.ref (n0 + ob0)), .val (.int i1), .val (.int i2), .val (.int i3), .val (.int i4), .val (.int i5)] [(.int x47), (.int x41)])) (fun t k => ?_) ?_
      · show Steps p.tables e below (T36.setTop (mkF m 119 #[.val (.ref (n0 + ob0)), .val (.int i1), .val (.int i2), .val (.int i3), .val (.int i4), .val (.int i5)] [(.int (-1 : Int32)), (.int x37)])) _
        refine XS.icmpNo X36.here hx rfl (hb hby d4_119) rfl (feq hc38).1 ?_
        show Steps p.tables e below (T36.setTop (mkF m 122 #[.val (.ref (n0 + ob0)), .val (.int i1), .val (.int i2), .val (.int i3), .val (.int i4), .val (.int i5)] [])) _
        refine XS.aloadN X36.here hx rfl (hb hby d4_122) rfl rfl ?_
        show Steps p.tables e below (T36.setTop (mkF m 123 #[.val (.ref (n0 + ob0)), .val (.int i1), .val (.int i2), .val (.int i3), .val (.int i4), .val (.int i5)] [(.ref (n0 + ob0))])) _
        refine st40 _ ?_
        show Steps p.tables e below (T40.setTop (mkF m 126 #[.val (.ref (n0 + ob0)), .val (.int i1), .val (.int i2), .val (.int i3), .val (.int i4), .val (.int i5)] [(.ref (n0 + x39))])) _
        refine XS.iloadN X40.here hx rfl (hb hby d4_126) rfl ?_
        show Steps p.tables e below (T40.setTop (mkF m 127 #[.val (.ref (n0 + ob0)), .val (.int i1), .val (.int i2), .val (.int i3), .val (.int i4), .val (.int i5)] [(.int i3), (.ref (n0 + x39))])) _
        refine ldW X40 hx hZ e40 O0 hx41 rfl (g := (mkF m 127 #[.val (.ref (n0 + ob0)), .val (.int i1), .val (.int i2), .val (.int i3), .val (.int i4), .val (.int i5)] [(.int i3), (.ref (n0 + x39))])) rfl rfl (hb hby d4_127) _ ?_
        show Steps p.tables e below (T40.setTop (mkF m 128 #[.val (.ref (n0 + ob0)), .val (.int i1), .val (.int i2), .val (.int i3), .val (.int i4), .val (.int i5)] [(.int x41)])) _
        refine XS.aloadN X40.here hx rfl (hb hby d4_128) rfl rfl ?_
        show Steps p.tables e below (T40.setTop (mkF m 129 #[.val (.ref (n0 + ob0)), .val (.int i1), .val (.int i2), .val (.int i3), .val (.int i4), .val (.int i5)] [(.ref (n0 + ob0)), (.int x41)])) _
        refine st43 _ ?_
        show Steps p.tables e below (T43.setTop (mkF m 132 #[.val (.ref (n0 + ob0)), .val (.int i1), .val (.int i2), .val (.int i3), .val (.int i4), .val (.int i5)] [(.ref (n0 + x42)), (.int x41)])) _
        refine XS.aloadN X43.here hx rfl (hb hby d4_132) rfl rfl ?_
        show Steps p.tables e below (T43.setTop (mkF m 133 #[.val (.ref (n0 + ob0)), .val (.int i1), .val (.int i2), .val (.int i3), .val (.int i4), .val (.int i5)] [(.ref (n0 + ob0)), (.ref (n0 + x42)), (.int x41)])) _
        refine st45 _ ?_
        show Steps p.tables e below (T45.setTop (mkF m 136 #[.val (.ref (n0 + ob0)), .val (.int i1), .val (.int i2), .val (.int i3), .val (.int i4), .val (.int i5)] [(.ref (n0 + x44)), (.ref (n0 + x42)), (.int x41)])) _
        refine XS.iloadN X45.here hx rfl (hb hby d4_136) rfl ?_
        show Steps p.tables e below (T45.setTop (mkF m 137 #[.val (.ref (n0 + ob0)), .val (.int i1), .val (.int i2), .val (.int i3), .val (.int i4), .val (.int i5)] [(.int i3), (.ref (n0 + x44)), (.ref (n0 + x42)), (.int x41)])) _
        refine ldW X45 hx hZ e45 O0 hx46 rfl (g := (mkF m 137 #[.val (.ref (n0 + ob0)), .val (.int i1), .val (.int i2), .val (.int i3), .val (.int i4), .val (.int i5)] [(.int i3), (.ref (n0 + x44)), (.ref (n0 + x42)), (.int x41)])) rfl rfl (hb hby d4_137) _ ?_
        show Steps p.tables e below (T45.setTop (mkF m 138 #[.val (.ref (n0 + ob0)), .val (.int i1), .val (.int i2), .val (.int i3), .val (.int i4), .val (.int i5)] [(.int x46), (.ref (n0 + x42)), (.int x41)])) _
        refine ldW X45 hx hZ e45 O0 hx47 rfl (g := (mkF m 138 #[.val (.ref (n0 + ob0)), .val (.int i1), .val (.int i2), .val (.int i3), .val (.int i4), .val (.int i5)] [(.int x46), (.ref (n0 + x42)), (.int x41)])) rfl rfl (hb hby d4_138) _ ?_
        exact k
      by_cases hc48 : x47 < x41
      · rw [if_pos hc48] at hf
        obtain ⟨u50, hk49, hf⟩ := own_bind hf
        obtain ⟨D49, hq49, hf⟩ := own_bind hf
        obtain ⟨T49, h49, L49, X49, e49, O49, N49, st49⟩ := callPW X45 hx hZ (y := (⟨"com/example/planar_drawing_kit/planardrawingkit/inspect/SweepLine", "rotateUp", "(I)V"⟩ : MethodName)) hown (hw _ (List.mem_of_getElem? (i := 71) rfl)) (hw _ (List.mem_of_getElem? (i := 73) rfl)) (hw _ (List.mem_of_getElem? (i := 2) rfl)) (hw _ (List.mem_of_getElem? (i := 72) rfl)) (hw _ (List.mem_of_getElem? (i := 3) rfl)) (hw _ (List.mem_of_getElem? (i := 74) rfl)) (by decide) e45 O0 N0 hk49 rfl (as' := [(.int i3)]) (ct10 hw hq49) (W := 0) (kc := 0) (ks := 0) rfl rfl (by decide) (by decide) (g := (mkF m 144 #[.val (.ref (n0 + ob0)), .val (.int i1), .val (.int i2), .val (.int i3), .val (.int i4), .val (.int i5)] [(.int i3), (.ref (n0 + ob0))])) rfl (by rw [hml]; rfl) (rest := []) (lenOf pd_6 rfl) rfl (by show 2 * 0 + _ ≤ _; exact Nat.le_of_eq rfl) (hb hby d4_144) (by show _ + 0 ≤ 7; omega) (by show _ + 0 ≤ 112; omega)
        refine Gl.on (B := T49.setTop (mkF m 112 #[.val (.ref (n0 + ob0)), .val (.int i1), .val (.int i2), .val (.int i3), .val (.int i4), .val (.int i5)] [])) (fun t k => ?_) ?_
        · show Steps p.tables e below (T45.setTop (mkF m 139 #[.val (.ref (n0 + ob0)), .val (.int i1), .val (.int i2), .val (.int i3), .val (.int i4), .val (.int i5)] [(.int x47), (.int x41)])) _
          refine XS.icmpNo X45.here hx rfl (hb hby d4_139) rfl (tlt hc48).2.2.2 ?_
          show Steps p.tables e below (T45.setTop (mkF m 142 #[.val (.ref (n0 + ob0)), .val (.int i1), .val (.int i2), .val (.int i3), .val (.int i4), .val (.int i5)] [])) _
          refine XS.aloadN X45.here hx rfl (hb hby d4_142) rfl rfl ?_
          show Steps p.tables e below (T45.setTop (mkF m 143 #[.val (.ref (n0 + ob0)), .val (.int i1), .val (.int i2), .val (.int i3), .val (.int i4), .val (.int i5)] [(.ref (n0 + ob0))])) _
          refine XS.iloadN X45.here hx rfl (hb hby d4_143) rfl ?_
          show Steps p.tables e below (T45.setTop (mkF m 144 #[.val (.ref (n0 + ob0)), .val (.int i1), .val (.int i2), .val (.int i3), .val (.int i4), .val (.int i5)] [(.int i3), (.ref (n0 + ob0))])) _
          refine st49 _ ?_
          show Steps p.tables e below (T49.setTop (mkF m 147 #[.val (.ref (n0 + ob0)), .val (.int i1), .val (.int i2), .val (.int i3), .val (.int i4), .val (.int i5)] [])) _
          refine XS.goto X49.here hx rfl (pc0 := 147) (pc' := 112) rfl (hb hby d4_147) (by decide) (by decide) ?_
          exact k
        exact ih X49 e49 O49 N49 (by omega) (by omega) hf
      · rw [if_neg hc48] at hf
        refine Gl.on (B := T45.setTop (mkF m 150 #[.val (.ref (n0 + ob0)), .val (.int i1), .val (.int i2), .val (.int i3), .val (.int i4), .val (.int i5)] [])) (fun t k => ?_) ?_
        · show Steps p.tables e below (T45.setTop (mkF m 139 #[.val (.ref (n0 + ob0)), .val (.int i1), .val (.int i2), .val (.int i3), .val (.int i4), .val (.int i5)] [(.int x47), (.int x41)])) _
          refine XS.icmpYes X45.here hx rfl (pc0 := 139) (pc' := 150) rfl (hb hby d4_139) rfl (flt hc48).2.2.2 (by decide) (by decide) ?_
          exact k
        exact bt4_150 hw hC X45 e45 O0 N0 (by omega) (by omega) hf
def b4_96 (D : Hp) (ob0 : Nat) (i3 : Int32) (i4 : Int32) (i5 : Int32) : Option (Hp) :=
  (gR D ob0 1 1).bind fun x29 =>
  (wV D x29 0 i5 (.int i3)).bind fun D31 =>
  (gR D31 ob0 1 3).bind fun x32 =>
  (wV D31 x32 0 i3 (.int i5)).bind fun D34 =>
  b4_112 12 D34 ob0 i3 i4 i5
set_option maxRecDepth 65536 in
set_option maxHeartbeats 40000000 in
theorem bt4_96 {p : Program} {l : Launch} {e : Env} {s : State} {m : MethodId} {args : Array Value} {below : List Frame} {meth : Method} {c : Code} {Z : State} {a0 : Array Value} {n0 : Nat} {D' : Hp} {T0 : State} {locs : List Loc} {cells slots : Nat} {h0 : Heap} {D : Hp} {ob0 : Nat} {i1 : Int32} {i2 : Int32} {i3 : Int32} {i4 : Int32} {i5 : Int32} (hw : ∀ d ∈ tables_1, d.before a0 Z = true) (hC : Cx p s m meth c Z prog_99_method_7_code 6 none "com/example/planar_drawing_kit/planardrawingkit/inspect/SweepLine" "insertAbove") (X0 : Stand p l e ({ frames := 4, cells := 7, slots := 112, locals := 61 } : Room) s m args below meth c T0 locs cells slots) (e0 : T0.heap = h0) (O0 : Ow Kt1 Z h0 n0 D) (N0 : Fr n0 locs) (hcc : cells ≤ 7) (hss : slots ≤ 112) (hf : b4_96 D ob0 i3 i4 i5 = some D') : Gl p e below s 7 112 (Qw Kt1 Z n0 none D') (T0.setTop (mkF m 96 #[.val (.ref (n0 + ob0)), .val (.int i1), .val (.int i2), .val (.int i3), .val (.int i4), .val (.int i5)] [])) := by
  obtain ⟨hx, hZ, hby, hml, hown, hnm, hret, hlk⟩ := id hC
  have hml : c.maxLocals = 6 := hml
  rw [b4_96] at hf
  obtain ⟨x29, hx29, hf⟩ := own_bind hf
  obtain ⟨T30, X30, e30, st30⟩ := getF X0 hx hZ hown (host := "") (Or.inl (hw _ (List.mem_of_getElem? (i := 13) rfl))) Via.refl e0 (O0.fld (gR_e hx29) rfl rfl) (g := (mkF m 97 #[.val (.ref (n0 + ob0)), .val (.int i1), .val (.int i2), .val (.int i3), .val (.int i4), .val (.int i5)] [(.ref (n0 + ob0))])) rfl rfl (hb hby d4_97)
  obtain ⟨D31, hq31, hf⟩ := own_bind hf
  obtain ⟨T31, h31, L31, X31, e31, O31, N31, st31⟩ := stIW X30 hx hZ e30 O0 N0 hq31 rfl (g := (mkF m 103 #[.val (.ref (n0 + ob0)), .val (.int i1), .val (.int i2), .val (.int i3), .val (.int i4), .val (.int i5)] [(.int i3), (.int i5), (.ref (n0 + x29))])) rfl rfl (hb hby d4_103)
  obtain ⟨x32, hx32, hf⟩ := own_bind hf
  obtain ⟨T33, X33, e33, st33⟩ := getF X31 hx hZ hown (host := "") (Or.inl (hw _ (List.mem_of_getElem? (i := 17) rfl))) Via.refl e31 (O31.fld (gR_e hx32) rfl rfl) (g := (mkF m 105 #[.val (.ref (n0 + ob0)), .val (.int i1), .val (.int i2), .val (.int i3), .val (.int i4), .val (.int i5)] [(.ref (n0 + ob0))])) rfl rfl (hb hby d4_105)
  obtain ⟨D34, hq34, hf⟩ := own_bind hf
  obtain ⟨T34, h34, L34, X34, e34, O34, N34, st34⟩ := stIW X33 hx hZ e33 O31 N31 hq34 rfl (g := (mkF m 111 #[.val (.ref (n0 + ob0)), .val (.int i1), .val (.int i2), .val (.int i3), .val (.int i4), .val (.int i5)] [(.int i5), (.int i3), (.ref (n0 + x32))])) rfl rfl (hb hby d4_111)
  refine Gl.on (B := T34.setTop (mkF m 112 #[.val (.ref (n0 + ob0)), .val (.int i1), .val (.int i2), .val (.int i3), .val (.int i4), .val (.int i5)] [])) (fun t k => ?_) ?_
  · show Steps p.tables e below (T0.setTop (mkF m 96 #[.val (.ref (n0 + ob0)), .val (.int i1), .val (.int i2), .val (.int i3), .val (.int i4), .val (.int i5)] [])) _
    refine XS.aloadN X0.here hx rfl (hb hby d4_96) rfl rfl ?_
    show Steps p.tables e below (T0.setTop (mkF m 97 #[.val (.ref (n0 + ob0)), .val (.int i1), .val (.int i2), .val (.int i3), .val (.int i4), .val (.int i5)] [(.ref (n0 + ob0))])) _
    refine st30 _ ?_
    show Steps p.tables e below (T30.setTop (mkF m 100 #[.val (.ref (n0 + ob0)), .val (.int i1), .val (.int i2), .val (.int i3), .val (.int i4), .val (.int i5)] [(.ref (n0 + x29))])) _
    refine XS.iload X30.here hx rfl (hb hby d4_100) rfl ?_
    show Steps p.tables e below (T30.setTop (mkF m 102 #[.val (.ref (n0 + ob0)), .val (.int i1), .val (.int i2), .val (.int i3), .val (.int i4), .val (.int i5)] [(.int i5), (.ref (n0 + x29))])) _
    refine XS.iloadN X30.here hx rfl (hb hby d4_102) rfl ?_
    show Steps p.tables e below (T30.setTop (mkF m 103 #[.val (.ref (n0 + ob0)), .val (.int i1), .val (.int i2), .val (.int i3), .val (.int i4), .val (.int i5)] [(.int i3), (.int i5), (.ref (n0 + x29))])) _
    refine st31 _ ?_
    show Steps p.tables e below (T31.setTop (mkF m 104 #[.val (.ref (n0 + ob0)), .val (.int i1), .val (.int i2), .val (.int i3), .val (.int i4), .val (.int i5)] [])) _
    refine XS.aloadN X31.here hx rfl (hb hby d4_104) rfl rfl ?_
    show Steps p.tables e below (T31.setTop (mkF m 105 #[.val (.ref (n0 + ob0)), .val (.int i1), .val (.int i2), .val (.int i3), .val (.int i4), .val (.int i5)] [(.ref (n0 + ob0))])) _
    refine st33 _ ?_
    show Steps p.tables e below (T33.setTop (mkF m 108 #[.val (.ref (n0 + ob0)), .val (.int i1), .val (.int i2), .val (.int i3), .val (.int i4), .val (.int i5)] [(.ref (n0 + x32))])) _
    refine XS.iloadN X33.here hx rfl (hb hby d4_108) rfl ?_
    show Steps p.tables e below (T33.setTop (mkF m 109 #[.val (.ref (n0 + ob0)), .val (.int i1), .val (.int i2), .val (.int i3), .val (.int i4), .val (.int i5)] [(.int i3), (.ref (n0 + x32))])) _
    refine XS.iload X33.here hx rfl (hb hby d4_109) rfl ?_
    show Steps p.tables e below (T33.setTop (mkF m 111 #[.val (.ref (n0 + ob0)), .val (.int i1), .val (.int i2), .val (.int i3), .val (.int i4), .val (.int i5)] [(.int i5), (.int i3), (.ref (n0 + x32))])) _
    refine st34 _ ?_
    exact k
  exact bt4_112 hw hC 12 X34 e34 O34 N34 (by omega) (by omega) hf
def b4_42 (D : Hp) (ob0 : Nat) (i3 : Int32) (i4 : Int32) (t0 : Int32) : Option (Hp) :=
  (gI D ob0 1 7).bind fun x14 =>
  if x14 = (-1 : Int32) then ((pV D ob0 1 7 (.int i3)).bind fun D17 =>
  b4_112 12 D17 ob0 i3 i4 t0) else (if i4 = (-1 : Int32) then (b4_96 D ob0 i3 i4 t0) else ((gR D ob0 1 2).bind fun x19 =>
  (rI D x19 0 i4).bind fun x21 =>
  if x21 = (-1 : Int32) then ((gR D ob0 1 2).bind fun x23 =>
  (wV D x23 0 i4 (.int i3)).bind fun D25 =>
  (gR D25 ob0 1 3).bind fun x26 =>
  (wV D25 x26 0 i3 (.int i4)).bind fun D28 =>
  b4_112 12 D28 ob0 i3 i4 t0) else (b4_96 D ob0 i3 i4 t0)))
set_option maxRecDepth 65536 in
set_option maxHeartbeats 40000000 in
theorem bt4_42 {p : Program} {l : Launch} {e : Env} {s : State} {m : MethodId} {args : Array Value} {below : List Frame} {meth : Method} {c : Code} {Z : State} {a0 : Array Value} {n0 : Nat} {D' : Hp} {T0 : State} {locs : List Loc} {cells slots : Nat} {h0 : Heap} {D : Hp} {ob0 : Nat} {i1 : Int32} {i2 : Int32} {i3 : Int32} {i4 : Int32} {t0 : Int32} (hw : ∀ d ∈ tables_1, d.before a0 Z = true) (hC : Cx p s m meth c Z prog_99_method_7_code 6 none "com/example/planar_drawing_kit/planardrawingkit/inspect/SweepLine" "insertAbove") (X0 : Stand p l e ({ frames := 4, cells := 7, slots := 112, locals := 61 } : Room) s m args below meth c T0 locs cells slots) (e0 : T0.heap = h0) (O0 : Ow Kt1 Z h0 n0 D) (N0 : Fr n0 locs) (hcc : cells ≤ 7) (hss : slots ≤ 112) (hf : b4_42 D ob0 i3 i4 t0 = some D') : Gl p e below s 7 112 (Qw Kt1 Z n0 none D') (T0.setTop (mkF m 42 #[.val (.ref (n0 + ob0)), .val (.int i1), .val (.int i2), .val (.int i3), .val (.int i4), .unset] [(.int t0)])) := by
  obtain ⟨hx, hZ, hby, hml, hown, hnm, hret, hlk⟩ := id hC
  have hml : c.maxLocals = 6 := hml
  rw [b4_42] at hf
  obtain ⟨x14, hx14, hf⟩ := own_bind hf
  obtain ⟨T15, X15, e15, st15⟩ := getF X0 hx hZ hown (host := "") (Or.inl (hw _ (List.mem_of_getElem? (i := 25) rfl))) Via.refl e0 (O0.fld (gI_e hx14) rfl rfl) (g := (mkF m 45 #[.val (.ref (n0 + ob0)), .val (.int i1), .val (.int i2), .val (.int i3), .val (.int i4), .val (.int t0)] [(.ref (n0 + ob0))])) rfl rfl (hb hby d4_45)
  refine Gl.on (B := T15.setTop (mkF m 49 #[.val (.ref (n0 + ob0)), .val (.int i1), .val (.int i2), .val (.int i3), .val (.int i4), .val (.int t0)] [(.int (-1 : Int32)), (.int x14)])) (fun t k => ?_) ?_
  · show Steps p.tables e below (T0.setTop (mkF m 42 #[.val (.ref (n0 + ob0)), .val (.int i1), .val (.int i2), .val (.int i3), .val (.int i4), .unset] [(.int t0)])) _
    refine XS.istore X0.here hx rfl (hb hby d4_42) rfl (l' := #[.val (.ref (n0 + ob0)), .val (.int i1), .val (.int i2), .val (.int i3), .val (.int i4), .val (.int t0)]) rfl ?_
    show Steps p.tables e below (T0.setTop (mkF m 44 #[.val (.ref (n0 + ob0)), .val (.int i1), .val (.int i2), .val (.int i3), .val (.int i4), .val (.int t0)] [])) _
    refine XS.aloadN X0.here hx rfl (hb hby d4_44) rfl rfl ?_
    show Steps p.tables e below (T0.setTop (mkF m 45 #[.val (.ref (n0 + ob0)), .val (.int i1), .val (.int i2), .val (.int i3), .val (.int i4), .val (.int t0)] [(.ref (n0 + ob0))])) _
    refine st15 _ ?_
    show Steps p.tables e below (T15.setTop (mkF m 48 #[.val (.ref (n0 + ob0)), .val (.int i1), .val (.int i2), .val (.int i3), .val (.int i4), .val (.int t0)] [(.int x14)])) _
    refine XS.iconst X15.here hx rfl (hb hby d4_48) ?_
    exact k
  by_cases hc16 : x14 = (-1 : Int32)
  · rw [if_pos hc16] at hf
    obtain ⟨D17, hq17, hf⟩ := own_bind hf
    obtain ⟨T17, h17, L17, X17, e17, O17, N17, st17⟩ := putW X15 hx hZ hown (hw _ (List.mem_of_getElem? (i := 25) rfl)) (lay1 hw) e15 O0 N0 hq17 rfl rfl (Or.inl (hw _ (List.mem_of_getElem? (i := 26) rfl))) (hw _ (List.mem_of_getElem? (i := 2) rfl)) (ty := .int) (by decide) rfl rfl (g := (mkF m 54 #[.val (.ref (n0 + ob0)), .val (.int i1), .val (.int i2), .val (.int i3), .val (.int i4), .val (.int t0)] [(.int i3), (.ref (n0 + ob0))])) rfl rfl (hb hby d4_54)
    refine Gl.on (B := T17.setTop (mkF m 112 #[.val (.ref (n0 + ob0)), .val (.int i1), .val (.int i2), .val (.int i3), .val (.int i4), .val (.int t0)] [])) (fun t k => ?_) ?_
    · show Steps p.tables e below (T15.setTop (mkF m 49 #[.val (.ref (n0 + ob0)), .val (.int i1), .val (.int i2), .val (.int i3), .val (.int i4), .val (.int t0)] [(.int (-1 : Int32)), (.int x14)])) _
      refine XS.icmpNo X15.here hx rfl (hb hby d4_49) rfl (teq hc16).2 ?_
      show Steps p.tables e below (T15.setTop (mkF m 52 #[.val (.ref (n0 + ob0)), .val (.int i1), .val (.int i2), .val (.int i3), .val (.int i4), .val (.int t0)] [])) _
      refine XS.aloadN X15.here hx rfl (hb hby d4_52) rfl rfl ?_
      show Steps p.tables e below (T15.setTop (mkF m 53 #[.val (.ref (n0 + ob0)), .val (.int i1), .val (.int i2), .val (.int i3), .val (.int i4), .val (.int t0)] [(.ref (n0 + ob0))])) _
      refine XS.iloadN X15.here hx rfl (hb hby d4_53) rfl ?_
      show Steps p.tables e below (T15.setTop (mkF m 54 #[.val (.ref (n0 + ob0)), .val (.int i1), .val (.int i2), .val (.int i3), .val (.int i4), .val (.int t0)] [(.int i3), (.ref (n0 + ob0))])) _
      refine st17 _ ?_
      show Steps p.tables e below (T17.setTop (mkF m 57 #[.val (.ref (n0 + ob0)), .val (.int i1), .val (.int i2), .val (.int i3), .val (.int i4), .val (.int t0)] [])) _
      refine XS.goto X17.here hx rfl (pc0 := 57) (pc' := 112) rfl (hb hby d4_57) (by decide) (by decide) ?_
      exact k
    exact bt4_112 hw hC 12 X17 e17 O17 N17 (by omega) (by omega) hf
  · rw [if_neg hc16] at hf
    refine Gl.on (B := T15.setTop (mkF m 63 #[.val (.ref (n0 + ob0)), .val (.int i1), .val (.int i2), .val (.int i3), .val (.int i4), .val (.int t0)] [(.int (-1 : Int32)), (.int i4)])) (fun t k => ?_) ?_
    · show Steps p.tables e below (T15.setTop (mkF m 49 #[.val (.ref (n0 + ob0)), .val (.int i1), .val (.int i2), .val (.int i3), .val (.int i4), .val (.int t0)] [(.int (-1 : Int32)), (.int x14)])) _
      refine XS.icmpYes X15.here hx rfl (pc0 := 49) (pc' := 60) rfl (hb hby d4_49) rfl (feq hc16).2 (by decide) (by decide) ?_
      show Steps p.tables e below (T15.setTop (mkF m 60 #[.val (.ref (n0 + ob0)), .val (.int i1), .val (.int i2), .val (.int i3), .val (.int i4), .val (.int t0)] [])) _
      refine XS.iload X15.here hx rfl (hb hby d4_60) rfl ?_
      show Steps p.tables e below (T15.setTop (mkF m 62 #[.val (.ref (n0 + ob0)), .val (.int i1), .val (.int i2), .val (.int i3), .val (.int i4), .val (.int t0)] [(.int i4)])) _
      refine XS.iconst X15.here hx rfl (hb hby d4_62) ?_
      exact k
    by_cases hc18 : i4 = (-1 : Int32)
    · rw [if_pos hc18] at hf
      refine Gl.on (B := T15.setTop (mkF m 96 #[.val (.ref (n0 + ob0)), .val (.int i1), .val (.int i2), .val (.int i3), .val (.int i4), .val (.int t0)] [])) (fun t k => ?_) ?_
      · show Steps p.tables e below (T15.setTop (mkF m 63 #[.val (.ref (n0 + ob0)), .val (.int i1), .val (.int i2), .val (.int i3), .val (.int i4), .val (.int t0)] [(.int (-1 : Int32)), (.int i4)])) _
        refine XS.icmpYes X15.here hx rfl (pc0 := 63) (pc' := 96) rfl (hb hby d4_63) rfl (teq hc18).1 (by decide) (by decide) ?_
        exact k
      exact bt4_96 hw hC X15 e15 O0 N0 (by omega) (by omega) hf
    · rw [if_neg hc18] at hf
      obtain ⟨x19, hx19, hf⟩ := own_bind hf
      obtain ⟨T20, X20, e20, st20⟩ := getF X15 hx hZ hown (host := "") (Or.inl (hw _ (List.mem_of_getElem? (i := 15) rfl))) Via.refl e15 (O0.fld (gR_e hx19) rfl rfl) (g := (mkF m 67 #[.val (.ref (n0 + ob0)), .val (.int i1), .val (.int i2), .val (.int i3), .val (.int i4), .val (.int t0)] [(.ref (n0 + ob0))])) rfl rfl (hb hby d4_67)
      obtain ⟨x21, hx21, hf⟩ := own_bind hf
      refine Gl.on (B := T20.setTop (mkF m 74 #[.val (.ref (n0 + ob0)), .val (.int i1), .val (.int i2), .val (.int i3), .val (.int i4), .val (.int t0)] [(.int (-1 : Int32)), (.int x21)])) (fun t k => ?_) ?_
      · show Steps p.tables e below (T15.setTop (mkF m 63 #[.val (.ref (n0 + ob0)), .val (.int i1), .val (.int i2), .val (.int i3), .val (.int i4), .val (.int t0)] [(.int (-1 : Int32)), (.int i4)])) _
        refine XS.icmpNo X15.here hx rfl (hb hby d4_63) rfl (feq hc18).1 ?_
        show Steps p.tables e below (T15.setTop (mkF m 66 #[.val (.ref (n0 + ob0)), .val (.int i1), .val (.int i2), .val (.int i3), .val (.int i4), .val (.int t0)] [])) _
        refine XS.aloadN X15.here hx rfl (hb hby d4_66) rfl rfl ?_
        show Steps p.tables e below (T15.setTop (mkF m 67 #[.val (.ref (n0 + ob0)), .val (.int i1), .val (.int i2), .val (.int i3), .val (.int i4), .val (.int t0)] [(.ref (n0 + ob0))])) _
        refine st20 _ ?_
        show Steps p.tables e below (T20.setTop (mkF m 70 #[.val (.ref (n0 + ob0)), .val (.int i1), .val (.int i2), .val (.int i3), .val (.int i4), .val (.int t0)] [(.ref (n0 + x19))])) _
        refine XS.iload X20.here hx rfl (hb hby d4_70) rfl ?_
        show Steps p.tables e below (T20.setTop (mkF m 72 #[.val (.ref (n0 + ob0)), .val (.int i1), .val (.int i2), .val (.int i3), .val (.int i4), .val (.int t0)] [(.int i4), (.ref (n0 + x19))])) _
        refine ldW X20 hx hZ e20 O0 hx21 rfl (g := (mkF m 72 #[.val (.ref (n0 + ob0)), .val (.int i1), .val (.int i2), .val (.int i3), .val (.int i4), .val (.int t0)] [(.int i4), (.ref (n0 + x19))])) rfl rfl (hb hby d4_72) _ ?_
        show Steps p.tables e below (T20.setTop (mkF m 73 #[.val (.ref (n0 + ob0)), .val (.int i1), .val (.int i2), .val (.int i3), .val (.int i4), .val (.int t0)] [(.int x21)])) _
        refine XS.iconst X20.here hx rfl (hb hby d4_73) ?_
        exact k
      by_cases hc22 : x21 = (-1 : Int32)
      · rw [if_pos hc22] at hf
        obtain ⟨x23, hx23, hf⟩ := own_bind hf
        obtain ⟨T24, X24, e24, st24⟩ := getF X20 hx hZ hown (host := "") (Or.inl (hw _ (List.mem_of_getElem? (i := 15) rfl))) Via.refl e20 (O0.fld (gR_e hx23) rfl rfl) (g := (mkF m 78 #[.val (.ref (n0 + ob0)), .val (.int i1), .val (.int i2), .val (.int i3), .val (.int i4), .val (.int t0)] [(.ref (n0 + ob0))])) rfl rfl (hb hby d4_78)
        obtain ⟨D25, hq25, hf⟩ := own_bind hf
        obtain ⟨T25, h25, L25, X25, e25, O25, N25, st25⟩ := stIW X24 hx hZ e24 O0 N0 hq25 rfl (g := (mkF m 84 #[.val (.ref (n0 + ob0)), .val (.int i1), .val (.int i2), .val (.int i3), .val (.int i4), .val (.int t0)] [(.int i3), (.int i4), (.ref (n0 + x23))])) rfl rfl (hb hby d4_84)
        obtain ⟨x26, hx26, hf⟩ := own_bind hf
        obtain ⟨T27, X27, e27, st27⟩ := getF X25 hx hZ hown (host := "") (Or.inl (hw _ (List.mem_of_getElem? (i := 17) rfl))) Via.refl e25 (O25.fld (gR_e hx26) rfl rfl) (g := (mkF m 86 #[.val (.ref (n0 + ob0)), .val (.int i1), .val (.int i2), .val (.int i3), .val (.int i4), .val (.int t0)] [(.ref (n0 + ob0))])) rfl rfl (hb hby d4_86)
        obtain ⟨D28, hq28, hf⟩ := own_bind hf
        obtain ⟨T28, h28, L28, X28, e28, O28, N28, st28⟩ := stIW X27 hx hZ e27 O25 N25 hq28 rfl (g := (mkF m 92 #[.val (.ref (n0 + ob0)), .val (.int i1), .val (.int i2), .val (.int i3), .val (.int i4), .val (.int t0)] [(.int i4), (.int i3), (.ref (n0 + x26))])) rfl rfl (hb hby d4_92)
        refine Gl.on (B := T28.setTop (mkF m 112 #[.val (.ref (n0 + ob0)), .val (.int i1), .val (.int i2), .val (.int i3), .val (.int i4), .val (.int t0)] [])) (fun t k => ?_) ?_
        · show Steps p.tables e below (T20.setTop (mkF m 74 #[.val (.ref (n0 + ob0)), .val (.int i1), .val (.int i2), .val (.int i3), .val (.int i4), .val (.int t0)] [(.int (-1 : Int32)), (.int x21)])) _
          refine XS.icmpNo X20.here hx rfl (hb hby d4_74) rfl (teq hc22).2 ?_
          show Steps p.tables e below (T20.setTop (mkF m 77 #[.val (.ref (n0 + ob0)), .val (.int i1), .val (.int i2), .val (.int i3), .val (.int i4), .val (.int t0)] [])) _
          refine XS.aloadN X20.here hx rfl (hb hby d4_77) rfl rfl ?_
          show Steps p.tables e below (T20.setTop (mkF m 78 #[.val (.ref (n0 + ob0)), .val (.int i1), .val (.int i2), .val (.int i3), .val (.int i4), .val (.int t0)] [(.ref (n0 + ob0))])) _
          refine st24 _ ?_
          show Steps p.tables e below (T24.setTop (mkF m 81 #[.val (.ref (n0 + ob0)), .val (.int i1), .val (.int i2), .val (.int i3), .val (.int i4), .val (.int t0)] [(.ref (n0 + x23))])) _
          refine XS.iload X24.here hx rfl (hb hby d4_81) rfl ?_
          show Steps p.tables e below (T24.setTop (mkF m 83 #[.val (.ref (n0 + ob0)), .val (.int i1), .val (.int i2), .val (.int i3), .val (.int i4), .val (.int t0)] [(.int i4), (.ref (n0 + x23))])) _
          refine XS.iloadN X24.here hx rfl (hb hby d4_83) rfl ?_
          show Steps p.tables e below (T24.setTop (mkF m 84 #[.val (.ref (n0 + ob0)), .val (.int i1), .val (.int i2), .val (.int i3), .val (.int i4), .val (.int t0)] [(.int i3), (.int i4), (.ref (n0 + x23))])) _
          refine st25 _ ?_
          show Steps p.tables e below (T25.setTop (mkF m 85 #[.val (.ref (n0 + ob0)), .val (.int i1), .val (.int i2), .val (.int i3), .val (.int i4), .val (.int t0)] [])) _
          refine XS.aloadN X25.here hx rfl (hb hby d4_85) rfl rfl ?_
          show Steps p.tables e below (T25.setTop (mkF m 86 #[.val (.ref (n0 + ob0)), .val (.int i1), .val (.int i2), .val (.int i3), .val (.int i4), .val (.int t0)] [(.ref (n0 + ob0))])) _
          refine st27 _ ?_
          show Steps p.tables e below (T27.setTop (mkF m 89 #[.val (.ref (n0 + ob0)), .val (.int i1), .val (.int i2), .val (.int i3), .val (.int i4), .val (.int t0)] [(.ref (n0 + x26))])) _
          refine XS.iloadN X27.here hx rfl (hb hby d4_89) rfl ?_
          show Steps p.tables e below (T27.setTop (mkF m 90 #[.val (.ref (n0 + ob0)), .val (.int i1), .val (.int i2), .val (.int i3), .val (.int i4), .val (.int t0)] [(.int i3), (.ref (n0 + x26))])) _
          refine XS.iload X27.here hx rfl (hb hby d4_90) rfl ?_
          show Steps p.tables e below (T27.setTop (mkF m 92 #[.val (.ref (n0 + ob0)), .val (.int i1), .val (.int i2), .val (.int i3), .val (.int i4), .val (.int t0)] [(.int i4), (.int i3), (.ref (n0 + x26))])) _
          refine st28 _ ?_
          show Steps p.tables e below (T28.setTop (mkF m 93 #[.val (.ref (n0 + ob0)), .val (.int i1), .val (.int i2), .val (.int i3), .val (.int i4), .val (.int t0)] [])) _
          refine XS.goto X28.here hx rfl (pc0 := 93) (pc' := 112) rfl (hb hby d4_93) (by decide) (by decide) ?_
          exact k
        exact bt4_112 hw hC 12 X28 e28 O28 N28 (by omega) (by omega) hf
      · rw [if_neg hc22] at hf
        refine Gl.on (B := T20.setTop (mkF m 96 #[.val (.ref (n0 + ob0)), .val (.int i1), .val (.int i2), .val (.int i3), .val (.int i4), .val (.int t0)] [])) (fun t k => ?_) ?_
        · show Steps p.tables e below (T20.setTop (mkF m 74 #[.val (.ref (n0 + ob0)), .val (.int i1), .val (.int i2), .val (.int i3), .val (.int i4), .val (.int t0)] [(.int (-1 : Int32)), (.int x21)])) _
          refine XS.icmpYes X20.here hx rfl (pc0 := 74) (pc' := 96) rfl (hb hby d4_74) rfl (feq hc22).2 (by decide) (by decide) ?_
          exact k
        exact bt4_96 hw hC X20 e20 O0 N0 (by omega) (by omega) hf
def b4_21 (D : Hp) (ob0 : Nat) (i1 : Int32) (i3 : Int32) (t0 : Int32) : Option (Hp) :=
  if i1 = (-1 : Int32) then ((gI D ob0 1 8).bind fun x9 =>
  b4_42 D ob0 i3 t0 x9) else ((gR D ob0 1 6).bind fun x11 =>
  (rI D x11 0 t0).bind fun x13 =>
  b4_42 D ob0 i3 t0 x13)
set_option maxRecDepth 65536 in
set_option maxHeartbeats 40000000 in
theorem bt4_21 {p : Program} {l : Launch} {e : Env} {s : State} {m : MethodId} {args : Array Value} {below : List Frame} {meth : Method} {c : Code} {Z : State} {a0 : Array Value} {n0 : Nat} {D' : Hp} {T0 : State} {locs : List Loc} {cells slots : Nat} {h0 : Heap} {D : Hp} {ob0 : Nat} {i1 : Int32} {i2 : Int32} {i3 : Int32} {t0 : Int32} (hw : ∀ d ∈ tables_1, d.before a0 Z = true) (hC : Cx p s m meth c Z prog_99_method_7_code 6 none "com/example/planar_drawing_kit/planardrawingkit/inspect/SweepLine" "insertAbove") (X0 : Stand p l e ({ frames := 4, cells := 7, slots := 112, locals := 61 } : Room) s m args below meth c T0 locs cells slots) (e0 : T0.heap = h0) (O0 : Ow Kt1 Z h0 n0 D) (N0 : Fr n0 locs) (hcc : cells ≤ 7) (hss : slots ≤ 112) (hf : b4_21 D ob0 i1 i3 t0 = some D') : Gl p e below s 7 112 (Qw Kt1 Z n0 none D') (T0.setTop (mkF m 21 #[.val (.ref (n0 + ob0)), .val (.int i1), .val (.int i2), .val (.int i3), .unset, .unset] [(.int t0)])) := by
  obtain ⟨hx, hZ, hby, hml, hown, hnm, hret, hlk⟩ := id hC
  have hml : c.maxLocals = 6 := hml
  rw [b4_21] at hf
  refine Gl.on (B := T0.setTop (mkF m 25 #[.val (.ref (n0 + ob0)), .val (.int i1), .val (.int i2), .val (.int i3), .val (.int t0), .unset] [(.int (-1 : Int32)), (.int i1)])) (fun t k => ?_) ?_
  · show Steps p.tables e below (T0.setTop (mkF m 21 #[.val (.ref (n0 + ob0)), .val (.int i1), .val (.int i2), .val (.int i3), .unset, .unset] [(.int t0)])) _
    refine XS.istore X0.here hx rfl (hb hby d4_21) rfl (l' := #[.val (.ref (n0 + ob0)), .val (.int i1), .val (.int i2), .val (.int i3), .val (.int t0), .unset]) rfl ?_
    show Steps p.tables e below (T0.setTop (mkF m 23 #[.val (.ref (n0 + ob0)), .val (.int i1), .val (.int i2), .val (.int i3), .val (.int t0), .unset] [])) _
    refine XS.iloadN X0.here hx rfl (hb hby d4_23) rfl ?_
    show Steps p.tables e below (T0.setTop (mkF m 24 #[.val (.ref (n0 + ob0)), .val (.int i1), .val (.int i2), .val (.int i3), .val (.int t0), .unset] [(.int i1)])) _
    refine XS.iconst X0.here hx rfl (hb hby d4_24) ?_
    exact k
  by_cases hc8 : i1 = (-1 : Int32)
  · rw [if_pos hc8] at hf
    obtain ⟨x9, hx9, hf⟩ := own_bind hf
    obtain ⟨T10, X10, e10, st10⟩ := getF X0 hx hZ hown (host := "") (Or.inl (hw _ (List.mem_of_getElem? (i := 27) rfl))) Via.refl e0 (O0.fld (gI_e hx9) rfl rfl) (g := (mkF m 29 #[.val (.ref (n0 + ob0)), .val (.int i1), .val (.int i2), .val (.int i3), .val (.int t0), .unset] [(.ref (n0 + ob0))])) rfl rfl (hb hby d4_29)
    refine Gl.on (B := T10.setTop (mkF m 42 #[.val (.ref (n0 + ob0)), .val (.int i1), .val (.int i2), .val (.int i3), .val (.int t0), .unset] [(.int x9)])) (fun t k => ?_) ?_
    · show Steps p.tables e below (T0.setTop (mkF m 25 #[.val (.ref (n0 + ob0)), .val (.int i1), .val (.int i2), .val (.int i3), .val (.int t0), .unset] [(.int (-1 : Int32)), (.int i1)])) _
      refine XS.icmpNo X0.here hx rfl (hb hby d4_25) rfl (teq hc8).2 ?_
      show Steps p.tables e below (T0.setTop (mkF m 28 #[.val (.ref (n0 + ob0)), .val (.int i1), .val (.int i2), .val (.int i3), .val (.int t0), .unset] [])) _
      refine XS.aloadN X0.here hx rfl (hb hby d4_28) rfl rfl ?_
      show Steps p.tables e below (T0.setTop (mkF m 29 #[.val (.ref (n0 + ob0)), .val (.int i1), .val (.int i2), .val (.int i3), .val (.int t0), .unset] [(.ref (n0 + ob0))])) _
      refine st10 _ ?_
      show Steps p.tables e below (T10.setTop (mkF m 32 #[.val (.ref (n0 + ob0)), .val (.int i1), .val (.int i2), .val (.int i3), .val (.int t0), .unset] [(.int x9)])) _
      refine XS.goto X10.here hx rfl (pc0 := 32) (pc' := 42) rfl (hb hby d4_32) (by decide) (by decide) ?_
      exact k
    exact bt4_42 hw hC X10 e10 O0 N0 (by omega) (by omega) hf
  · rw [if_neg hc8] at hf
    obtain ⟨x11, hx11, hf⟩ := own_bind hf
    obtain ⟨T12, X12, e12, st12⟩ := getF X0 hx hZ hown (host := "") (Or.inl (hw _ (List.mem_of_getElem? (i := 23) rfl))) Via.refl e0 (O0.fld (gR_e hx11) rfl rfl) (g := (mkF m 36 #[.val (.ref (n0 + ob0)), .val (.int i1), .val (.int i2), .val (.int i3), .val (.int t0), .unset] [(.ref (n0 + ob0))])) rfl rfl (hb hby d4_36)
    obtain ⟨x13, hx13, hf⟩ := own_bind hf
    refine Gl.on (B := T12.setTop (mkF m 42 #[.val (.ref (n0 + ob0)), .val (.int i1), .val (.int i2), .val (.int i3), .val (.int t0), .unset] [(.int x13)])) (fun t k => ?_) ?_
    · show Steps p.tables e below (T0.setTop (mkF m 25 #[.val (.ref (n0 + ob0)), .val (.int i1), .val (.int i2), .val (.int i3), .val (.int t0), .unset] [(.int (-1 : Int32)), (.int i1)])) _
      refine XS.icmpYes X0.here hx rfl (pc0 := 25) (pc' := 35) rfl (hb hby d4_25) rfl (feq hc8).2 (by decide) (by decide) ?_
      show Steps p.tables e below (T0.setTop (mkF m 35 #[.val (.ref (n0 + ob0)), .val (.int i1), .val (.int i2), .val (.int i3), .val (.int t0), .unset] [])) _
      refine XS.aloadN X0.here hx rfl (hb hby d4_35) rfl rfl ?_
      show Steps p.tables e below (T0.setTop (mkF m 36 #[.val (.ref (n0 + ob0)), .val (.int i1), .val (.int i2), .val (.int i3), .val (.int t0), .unset] [(.ref (n0 + ob0))])) _
      refine st12 _ ?_
      show Steps p.tables e below (T12.setTop (mkF m 39 #[.val (.ref (n0 + ob0)), .val (.int i1), .val (.int i2), .val (.int i3), .val (.int t0), .unset] [(.ref (n0 + x11))])) _
      refine XS.iload X12.here hx rfl (hb hby d4_39) rfl ?_
      show Steps p.tables e below (T12.setTop (mkF m 41 #[.val (.ref (n0 + ob0)), .val (.int i1), .val (.int i2), .val (.int i3), .val (.int t0), .unset] [(.int t0), (.ref (n0 + x11))])) _
      refine ldW X12 hx hZ e12 O0 hx13 rfl (g := (mkF m 41 #[.val (.ref (n0 + ob0)), .val (.int i1), .val (.int i2), .val (.int i3), .val (.int t0), .unset] [(.int t0), (.ref (n0 + x11))])) rfl rfl (hb hby d4_41) _ ?_
      exact k
    exact bt4_42 hw hC X12 e12 O0 N0 (by omega) (by omega) hf
def f4 (D : Hp) (ob0 : Nat) (i1 : Int32) (i2 : Int32) : Option (Hp) :=
  (ck D ob0 1).bind fun u2 => (f5 D ob0 i2).bind fun q1 => own_let q1.1 fun x3 => own_let q1.2 fun D1 =>
  if i1 = (-1 : Int32) then (b4_21 D1 ob0 i1 x3 (-1 : Int32)) else ((gR D1 ob0 1 12).bind fun x5 =>
  (rI D1 x5 0 i1).bind fun x7 =>
  b4_21 D1 ob0 i1 x3 x7)
theorem ef_4 (m : MethodId) (n0 : Nat) (ob0 : Nat) (i1 : Int32) (i2 : Int32) : entryFrame m #[(.ref (n0 + ob0)), (.int i1), (.int i2)] 6 = mkF m 0 #[.val (.ref (n0 + ob0)), .val (.int i1), .val (.int i2), .unset, .unset, .unset] [] := by first | (simp [entryFrame, mkF, argsToLocals, Value.category]; done) | rfl
set_option maxRecDepth 65536 in
set_option maxHeartbeats 40000000 in
theorem ct4 {l : Launch} {Z : State} {a0 : Array Value} (hw : ∀ d ∈ tables_1, d.before a0 Z = true) {n0 : Nat} {D D' : Hp} {ob0 : Nat} {i1 : Int32} {i2 : Int32} (hf : f4 D ob0 i1 i2 = some D') :
    Ct Kt1 l Z (⟨"com/example/planar_drawing_kit/planardrawingkit/inspect/SweepLine", "insertAbove", "(II)V"⟩ : MethodName) (.code (⟨"com/example/planar_drawing_kit/planardrawingkit/inspect/SweepLine", "insertAbove", "(II)V"⟩ : MethodName) prog_99_method_7_code 6 none) ({ frames := 4, cells := 7, slots := 112, locals := 61 } : Room) n0 D #[(.ref (n0 + ob0)), (.int i1), (.int i2)] none D' := by
  refine Ct.of (plainFor_of_name pn_4) ?_
  intro p e s m below meth c T0 h0 hC X0 e0 O0
  obtain ⟨hx, hZ, hby, hml, hown, hnm, hret, hlk⟩ := id hC
  have hml : c.maxLocals = 6 := hml
  have hown : s.vm.findClass "com/example/planar_drawing_kit/planardrawingkit/inspect/SweepLine" = some m.cls := hown
  have hnm : meth.name = "insertAbove" := hnm
  have N0 := Fr.nil n0
  refine Gl.on (fun t k => castTop (ef_4 m n0 ob0 i1 i2) k) ?_
  rw [f4] at hf
  obtain ⟨u2, hk1, hf⟩ := own_bind hf
  obtain ⟨⟨x3, D1⟩, hq1, hf⟩ := own_bind hf
  obtain ⟨_, rfl, hf⟩ := own_letE hf
  obtain ⟨_, rfl, hf⟩ := own_letE hf
  obtain ⟨T1, h1, L1, X1, e1, O1, N1, st1⟩ := callPW X0 hx hZ (y := (⟨"com/example/planar_drawing_kit/planardrawingkit/inspect/SweepLine", "newNode", "(I)I"⟩ : MethodName)) hown (hw _ (List.mem_of_getElem? (i := 47) rfl)) (hw _ (List.mem_of_getElem? (i := 49) rfl)) (hw _ (List.mem_of_getElem? (i := 2) rfl)) (hw _ (List.mem_of_getElem? (i := 48) rfl)) (hw _ (List.mem_of_getElem? (i := 3) rfl)) (hw _ (List.mem_of_getElem? (i := 50) rfl)) (by decide) e0 O0 N0 hk1 rfl (as' := [(.int i2)]) (ct5 hw hq1) (W := 0) (kc := 7) (ks := 112) rfl rfl (by decide) (by decide) (g := (mkF m 2 #[.val (.ref (n0 + ob0)), .val (.int i1), .val (.int i2), .unset, .unset, .unset] [(.int i2), (.ref (n0 + ob0))])) rfl (by rw [hml]; rfl) (rest := []) (lenOf pd_5 rfl) rfl (by show 2 * 0 + _ ≤ _; exact Nat.le_of_eq rfl) (hb hby d4_2) (by show _ + 7 ≤ 7; omega) (by show _ + 112 ≤ 112; omega)
  refine Gl.on (B := T1.setTop (mkF m 8 #[.val (.ref (n0 + ob0)), .val (.int i1), .val (.int i2), .val (.int x3), .unset, .unset] [(.int (-1 : Int32)), (.int i1)])) (fun t k => ?_) ?_
  · show Steps p.tables e below (T0.setTop (mkF m 0 #[.val (.ref (n0 + ob0)), .val (.int i1), .val (.int i2), .unset, .unset, .unset] [])) _
    refine XS.aloadN X0.here hx rfl (hb hby d4_0) rfl rfl ?_
    show Steps p.tables e below (T0.setTop (mkF m 1 #[.val (.ref (n0 + ob0)), .val (.int i1), .val (.int i2), .unset, .unset, .unset] [(.ref (n0 + ob0))])) _
    refine XS.iloadN X0.here hx rfl (hb hby d4_1) rfl ?_
    show Steps p.tables e below (T0.setTop (mkF m 2 #[.val (.ref (n0 + ob0)), .val (.int i1), .val (.int i2), .unset, .unset, .unset] [(.int i2), (.ref (n0 + ob0))])) _
    refine st1 _ ?_
    show Steps p.tables e below (T1.setTop (mkF m 5 #[.val (.ref (n0 + ob0)), .val (.int i1), .val (.int i2), .unset, .unset, .unset] [(.int x3)])) _
    refine XS.istoreN X1.here hx rfl (hb hby d4_5) rfl (l' := #[.val (.ref (n0 + ob0)), .val (.int i1), .val (.int i2), .val (.int x3), .unset, .unset]) rfl ?_
    show Steps p.tables e below (T1.setTop (mkF m 6 #[.val (.ref (n0 + ob0)), .val (.int i1), .val (.int i2), .val (.int x3), .unset, .unset] [])) _
    refine XS.iloadN X1.here hx rfl (hb hby d4_6) rfl ?_
    show Steps p.tables e below (T1.setTop (mkF m 7 #[.val (.ref (n0 + ob0)), .val (.int i1), .val (.int i2), .val (.int x3), .unset, .unset] [(.int i1)])) _
    refine XS.iconst X1.here hx rfl (hb hby d4_7) ?_
    exact k
  by_cases hc4 : i1 = (-1 : Int32)
  · rw [if_pos hc4] at hf
    refine Gl.on (B := T1.setTop (mkF m 21 #[.val (.ref (n0 + ob0)), .val (.int i1), .val (.int i2), .val (.int x3), .unset, .unset] [(.int (-1 : Int32))])) (fun t k => ?_) ?_
    · show Steps p.tables e below (T1.setTop (mkF m 8 #[.val (.ref (n0 + ob0)), .val (.int i1), .val (.int i2), .val (.int x3), .unset, .unset] [(.int (-1 : Int32)), (.int i1)])) _
      refine XS.icmpNo X1.here hx rfl (hb hby d4_8) rfl (teq hc4).2 ?_
      show Steps p.tables e below (T1.setTop (mkF m 11 #[.val (.ref (n0 + ob0)), .val (.int i1), .val (.int i2), .val (.int x3), .unset, .unset] [])) _
      refine XS.iconst X1.here hx rfl (hb hby d4_11) ?_
      show Steps p.tables e below (T1.setTop (mkF m 12 #[.val (.ref (n0 + ob0)), .val (.int i1), .val (.int i2), .val (.int x3), .unset, .unset] [(.int (-1 : Int32))])) _
      refine XS.goto X1.here hx rfl (pc0 := 12) (pc' := 21) rfl (hb hby d4_12) (by decide) (by decide) ?_
      exact k
    exact bt4_21 hw hC X1 e1 O1 N1 (by omega) (by omega) hf
  · rw [if_neg hc4] at hf
    obtain ⟨x5, hx5, hf⟩ := own_bind hf
    obtain ⟨T6, X6, e6, st6⟩ := getF X1 hx hZ hown (host := "") (Or.inl (hw _ (List.mem_of_getElem? (i := 36) rfl))) Via.refl e1 (O1.fld (gR_e hx5) rfl rfl) (g := (mkF m 16 #[.val (.ref (n0 + ob0)), .val (.int i1), .val (.int i2), .val (.int x3), .unset, .unset] [(.ref (n0 + ob0))])) rfl rfl (hb hby d4_16)
    obtain ⟨x7, hx7, hf⟩ := own_bind hf
    refine Gl.on (B := T6.setTop (mkF m 21 #[.val (.ref (n0 + ob0)), .val (.int i1), .val (.int i2), .val (.int x3), .unset, .unset] [(.int x7)])) (fun t k => ?_) ?_
    · show Steps p.tables e below (T1.setTop (mkF m 8 #[.val (.ref (n0 + ob0)), .val (.int i1), .val (.int i2), .val (.int x3), .unset, .unset] [(.int (-1 : Int32)), (.int i1)])) _
      refine XS.icmpYes X1.here hx rfl (pc0 := 8) (pc' := 15) rfl (hb hby d4_8) rfl (feq hc4).2 (by decide) (by decide) ?_
      show Steps p.tables e below (T1.setTop (mkF m 15 #[.val (.ref (n0 + ob0)), .val (.int i1), .val (.int i2), .val (.int x3), .unset, .unset] [])) _
      refine XS.aloadN X1.here hx rfl (hb hby d4_15) rfl rfl ?_
      show Steps p.tables e below (T1.setTop (mkF m 16 #[.val (.ref (n0 + ob0)), .val (.int i1), .val (.int i2), .val (.int x3), .unset, .unset] [(.ref (n0 + ob0))])) _
      refine st6 _ ?_
      show Steps p.tables e below (T6.setTop (mkF m 19 #[.val (.ref (n0 + ob0)), .val (.int i1), .val (.int i2), .val (.int x3), .unset, .unset] [(.ref (n0 + x5))])) _
      refine XS.iloadN X6.here hx rfl (hb hby d4_19) rfl ?_
      show Steps p.tables e below (T6.setTop (mkF m 20 #[.val (.ref (n0 + ob0)), .val (.int i1), .val (.int i2), .val (.int x3), .unset, .unset] [(.int i1), (.ref (n0 + x5))])) _
      refine ldW X6 hx hZ e6 O1 hx7 rfl (g := (mkF m 20 #[.val (.ref (n0 + ob0)), .val (.int i1), .val (.int i2), .val (.int x3), .unset, .unset] [(.int i1), (.ref (n0 + x5))])) rfl rfl (hb hby d4_20) _ ?_
      exact k
    exact bt4_21 hw hC X6 e6 O1 N1 (by omega) (by omega) hf
theorem d12_0 : decode prog_99_method_9_code 0 = .ok (.aload_n 0, 1) := by decide +kernel
theorem d12_1 : decode prog_99_method_9_code 1 = .ok (.getfield 48, 3) := by decide +kernel
theorem d12_4 : decode prog_99_method_9_code 4 = .ok (.iload_n 1, 1) := by decide +kernel
theorem d12_5 : decode prog_99_method_9_code 5 = .ok (.iaload, 1) := by decide +kernel
theorem d12_6 : decode prog_99_method_9_code 6 = .ok (.istore_n 2, 1) := by decide +kernel
theorem d12_7 : decode prog_99_method_9_code 7 = .ok (.aload_n 0, 1) := by decide +kernel
theorem d12_8 : decode prog_99_method_9_code 8 = .ok (.getfield 28, 3) := by decide +kernel
theorem d12_11 : decode prog_99_method_9_code 11 = .ok (.iload_n 2, 1) := by decide +kernel
theorem d12_12 : decode prog_99_method_9_code 12 = .ok (.iaload, 1) := by decide +kernel
theorem d12_13 : decode prog_99_method_9_code 13 = .ok (.istore_n 3, 1) := by decide +kernel
theorem d12_14 : decode prog_99_method_9_code 14 = .ok (.aload_n 0, 1) := by decide +kernel
theorem d12_15 : decode prog_99_method_9_code 15 = .ok (.getfield 7, 3) := by decide +kernel
theorem d12_18 : decode prog_99_method_9_code 18 = .ok (.iload_n 3, 1) := by decide +kernel
theorem d12_19 : decode prog_99_method_9_code 19 = .ok (.iaload, 1) := by decide +kernel
theorem d12_20 : decode prog_99_method_9_code 20 = .ok (.istore 4, 2) := by decide +kernel
theorem d12_22 : decode prog_99_method_9_code 22 = .ok (.aload_n 0, 1) := by decide +kernel
theorem d12_23 : decode prog_99_method_9_code 23 = .ok (.getfield 7, 3) := by decide +kernel
theorem d12_26 : decode prog_99_method_9_code 26 = .ok (.iload_n 2, 1) := by decide +kernel
theorem d12_27 : decode prog_99_method_9_code 27 = .ok (.iload 4, 2) := by decide +kernel
theorem d12_29 : decode prog_99_method_9_code 29 = .ok (.iastore, 1) := by decide +kernel
theorem d12_30 : decode prog_99_method_9_code 30 = .ok (.aload_n 0, 1) := by decide +kernel
theorem d12_31 : decode prog_99_method_9_code 31 = .ok (.getfield 7, 3) := by decide +kernel
theorem d12_34 : decode prog_99_method_9_code 34 = .ok (.iload_n 3, 1) := by decide +kernel
theorem d12_35 : decode prog_99_method_9_code 35 = .ok (.iload_n 1, 1) := by decide +kernel
theorem d12_36 : decode prog_99_method_9_code 36 = .ok (.iastore, 1) := by decide +kernel
theorem d12_37 : decode prog_99_method_9_code 37 = .ok (.aload_n 0, 1) := by decide +kernel
theorem d12_38 : decode prog_99_method_9_code 38 = .ok (.getfield 48, 3) := by decide +kernel
theorem d12_41 : decode prog_99_method_9_code 41 = .ok (.iload 4, 2) := by decide +kernel
theorem d12_43 : decode prog_99_method_9_code 43 = .ok (.iload_n 2, 1) := by decide +kernel
theorem d12_44 : decode prog_99_method_9_code 44 = .ok (.iastore, 1) := by decide +kernel
theorem d12_45 : decode prog_99_method_9_code 45 = .ok (.aload_n 0, 1) := by decide +kernel
theorem d12_46 : decode prog_99_method_9_code 46 = .ok (.getfield 48, 3) := by decide +kernel
theorem d12_49 : decode prog_99_method_9_code 49 = .ok (.iload_n 1, 1) := by decide +kernel
theorem d12_50 : decode prog_99_method_9_code 50 = .ok (.iload_n 3, 1) := by decide +kernel
theorem d12_51 : decode prog_99_method_9_code 51 = .ok (.iastore, 1) := by decide +kernel
theorem d12_52 : decode prog_99_method_9_code 52 = .ok (.return_, 1) := by decide +kernel
theorem pn_12 : plainName "com/example/planar_drawing_kit/planardrawingkit/inspect/SweepLine" = true := by first | (simp [plainName, overriddenIn]; done) | decide +kernel
def f12 (D : Hp) (ob0 : Nat) (i1 : Int32) : Option (Hp) :=
  (gR D ob0 1 12).bind fun x1 =>
  (rI D x1 0 i1).bind fun x3 =>
  (gR D ob0 1 6).bind fun x4 =>
  (rI D x4 0 x3).bind fun x6 =>
  (gR D ob0 1 0).bind fun x7 =>
  (rI D x7 0 x6).bind fun x9 =>
  (gR D ob0 1 0).bind fun x10 =>
  (wV D x10 0 x3 (.int x9)).bind fun D12 =>
  (gR D12 ob0 1 0).bind fun x13 =>
  (wV D12 x13 0 x6 (.int i1)).bind fun D15 =>
  (gR D15 ob0 1 12).bind fun x16 =>
  (wV D15 x16 0 x9 (.int x3)).bind fun D18 =>
  (gR D18 ob0 1 12).bind fun x19 =>
  (wV D18 x19 0 i1 (.int x6)).bind fun D21 =>
  some D21
theorem ef_12 (m : MethodId) (n0 : Nat) (ob0 : Nat) (i1 : Int32) : entryFrame m #[(.ref (n0 + ob0)), (.int i1)] 5 = mkF m 0 #[.val (.ref (n0 + ob0)), .val (.int i1), .unset, .unset, .unset] [] := by first | (simp [entryFrame, mkF, argsToLocals, Value.category]; done) | rfl
set_option maxRecDepth 65536 in
set_option maxHeartbeats 40000000 in
theorem ct12 {l : Launch} {Z : State} {a0 : Array Value} (hw : ∀ d ∈ tables_1, d.before a0 Z = true) {n0 : Nat} {D D' : Hp} {ob0 : Nat} {i1 : Int32} (hf : f12 D ob0 i1 = some D') :
    Ct Kt1 l Z (⟨"com/example/planar_drawing_kit/planardrawingkit/inspect/SweepLine", "swapWithAbove", "(I)V"⟩ : MethodName) (.code (⟨"com/example/planar_drawing_kit/planardrawingkit/inspect/SweepLine", "swapWithAbove", "(I)V"⟩ : MethodName) prog_99_method_9_code 5 none) ({ frames := 0, cells := 0, slots := 0, locals := 0 } : Room) n0 D #[(.ref (n0 + ob0)), (.int i1)] none D' := by
  refine Ct.of (plainFor_of_name pn_12) ?_
  intro p e s m below meth c T0 h0 hC X0 e0 O0
  obtain ⟨hx, hZ, hby, hml, hown, hnm, hret, hlk⟩ := id hC
  have hml : c.maxLocals = 5 := hml
  have hown : s.vm.findClass "com/example/planar_drawing_kit/planardrawingkit/inspect/SweepLine" = some m.cls := hown
  have hnm : meth.name = "swapWithAbove" := hnm
  have N0 := Fr.nil n0
  refine Gl.on (fun t k => castTop (ef_12 m n0 ob0 i1) k) ?_
  rw [f12] at hf
  obtain ⟨x1, hx1, hf⟩ := own_bind hf
  obtain ⟨T2, X2, e2, st2⟩ := getF X0 hx hZ hown (host := "") (Or.inl (hw _ (List.mem_of_getElem? (i := 36) rfl))) Via.refl e0 (O0.fld (gR_e hx1) rfl rfl) (g := (mkF m 1 #[.val (.ref (n0 + ob0)), .val (.int i1), .unset, .unset, .unset] [(.ref (n0 + ob0))])) rfl rfl (hb hby d12_1)
  obtain ⟨x3, hx3, hf⟩ := own_bind hf
  obtain ⟨x4, hx4, hf⟩ := own_bind hf
  obtain ⟨T5, X5, e5, st5⟩ := getF X2 hx hZ hown (host := "") (Or.inl (hw _ (List.mem_of_getElem? (i := 23) rfl))) Via.refl e2 (O0.fld (gR_e hx4) rfl rfl) (g := (mkF m 8 #[.val (.ref (n0 + ob0)), .val (.int i1), .val (.int x3), .unset, .unset] [(.ref (n0 + ob0))])) rfl rfl (hb hby d12_8)
  obtain ⟨x6, hx6, hf⟩ := own_bind hf
  obtain ⟨x7, hx7, hf⟩ := own_bind hf
  obtain ⟨T8, X8, e8, st8⟩ := getF X5 hx hZ hown (host := "") (Or.inl (hw _ (List.mem_of_getElem? (i := 11) rfl))) Via.refl e5 (O0.fld (gR_e hx7) rfl rfl) (g := (mkF m 15 #[.val (.ref (n0 + ob0)), .val (.int i1), .val (.int x3), .val (.int x6), .unset] [(.ref (n0 + ob0))])) rfl rfl (hb hby d12_15)
  obtain ⟨x9, hx9, hf⟩ := own_bind hf
  obtain ⟨x10, hx10, hf⟩ := own_bind hf
  obtain ⟨T11, X11, e11, st11⟩ := getF X8 hx hZ hown (host := "") (Or.inl (hw _ (List.mem_of_getElem? (i := 11) rfl))) Via.refl e8 (O0.fld (gR_e hx10) rfl rfl) (g := (mkF m 23 #[.val (.ref (n0 + ob0)), .val (.int i1), .val (.int x3), .val (.int x6), .val (.int x9)] [(.ref (n0 + ob0))])) rfl rfl (hb hby d12_23)
  obtain ⟨D12, hq12, hf⟩ := own_bind hf
  obtain ⟨T12, h12, L12, X12, e12, O12, N12, st12⟩ := stIW X11 hx hZ e11 O0 N0 hq12 rfl (g := (mkF m 29 #[.val (.ref (n0 + ob0)), .val (.int i1), .val (.int x3), .val (.int x6), .val (.int x9)] [(.int x9), (.int x3), (.ref (n0 + x10))])) rfl rfl (hb hby d12_29)
  obtain ⟨x13, hx13, hf⟩ := own_bind hf
  obtain ⟨T14, X14, e14, st14⟩ := getF X12 hx hZ hown (host := "") (Or.inl (hw _ (List.mem_of_getElem? (i := 11) rfl))) Via.refl e12 (O12.fld (gR_e hx13) rfl rfl) (g := (mkF m 31 #[.val (.ref (n0 + ob0)), .val (.int i1), .val (.int x3), .val (.int x6), .val (.int x9)] [(.ref (n0 + ob0))])) rfl rfl (hb hby d12_31)
  obtain ⟨D15, hq15, hf⟩ := own_bind hf
  obtain ⟨T15, h15, L15, X15, e15, O15, N15, st15⟩ := stIW X14 hx hZ e14 O12 N12 hq15 rfl (g := (mkF m 36 #[.val (.ref (n0 + ob0)), .val (.int i1), .val (.int x3), .val (.int x6), .val (.int x9)] [(.int i1), (.int x6), (.ref (n0 + x13))])) rfl rfl (hb hby d12_36)
  obtain ⟨x16, hx16, hf⟩ := own_bind hf
  obtain ⟨T17, X17, e17, st17⟩ := getF X15 hx hZ hown (host := "") (Or.inl (hw _ (List.mem_of_getElem? (i := 36) rfl))) Via.refl e15 (O15.fld (gR_e hx16) rfl rfl) (g := (mkF m 38 #[.val (.ref (n0 + ob0)), .val (.int i1), .val (.int x3), .val (.int x6), .val (.int x9)] [(.ref (n0 + ob0))])) rfl rfl (hb hby d12_38)
  obtain ⟨D18, hq18, hf⟩ := own_bind hf
  obtain ⟨T18, h18, L18, X18, e18, O18, N18, st18⟩ := stIW X17 hx hZ e17 O15 N15 hq18 rfl (g := (mkF m 44 #[.val (.ref (n0 + ob0)), .val (.int i1), .val (.int x3), .val (.int x6), .val (.int x9)] [(.int x3), (.int x9), (.ref (n0 + x16))])) rfl rfl (hb hby d12_44)
  obtain ⟨x19, hx19, hf⟩ := own_bind hf
  obtain ⟨T20, X20, e20, st20⟩ := getF X18 hx hZ hown (host := "") (Or.inl (hw _ (List.mem_of_getElem? (i := 36) rfl))) Via.refl e18 (O18.fld (gR_e hx19) rfl rfl) (g := (mkF m 46 #[.val (.ref (n0 + ob0)), .val (.int i1), .val (.int x3), .val (.int x6), .val (.int x9)] [(.ref (n0 + ob0))])) rfl rfl (hb hby d12_46)
  obtain ⟨D21, hq21, hf⟩ := own_bind hf
  obtain ⟨T21, h21, L21, X21, e21, O21, N21, st21⟩ := stIW X20 hx hZ e20 O18 N18 hq21 rfl (g := (mkF m 51 #[.val (.ref (n0 + ob0)), .val (.int i1), .val (.int x3), .val (.int x6), .val (.int x9)] [(.int x6), (.int i1), (.ref (n0 + x19))])) rfl rfl (hb hby d12_51)
  refine Gl.on (B := T21.setTop (mkF m 52 #[.val (.ref (n0 + ob0)), .val (.int i1), .val (.int x3), .val (.int x6), .val (.int x9)] [])) (fun t k => ?_) ?_
  · show Steps p.tables e below (T0.setTop (mkF m 0 #[.val (.ref (n0 + ob0)), .val (.int i1), .unset, .unset, .unset] [])) _
    refine XS.aloadN X0.here hx rfl (hb hby d12_0) rfl rfl ?_
    show Steps p.tables e below (T0.setTop (mkF m 1 #[.val (.ref (n0 + ob0)), .val (.int i1), .unset, .unset, .unset] [(.ref (n0 + ob0))])) _
    refine st2 _ ?_
    show Steps p.tables e below (T2.setTop (mkF m 4 #[.val (.ref (n0 + ob0)), .val (.int i1), .unset, .unset, .unset] [(.ref (n0 + x1))])) _
    refine XS.iloadN X2.here hx rfl (hb hby d12_4) rfl ?_
    show Steps p.tables e below (T2.setTop (mkF m 5 #[.val (.ref (n0 + ob0)), .val (.int i1), .unset, .unset, .unset] [(.int i1), (.ref (n0 + x1))])) _
    refine ldW X2 hx hZ e2 O0 hx3 rfl (g := (mkF m 5 #[.val (.ref (n0 + ob0)), .val (.int i1), .unset, .unset, .unset] [(.int i1), (.ref (n0 + x1))])) rfl rfl (hb hby d12_5) _ ?_
    show Steps p.tables e below (T2.setTop (mkF m 6 #[.val (.ref (n0 + ob0)), .val (.int i1), .unset, .unset, .unset] [(.int x3)])) _
    refine XS.istoreN X2.here hx rfl (hb hby d12_6) rfl (l' := #[.val (.ref (n0 + ob0)), .val (.int i1), .val (.int x3), .unset, .unset]) rfl ?_
    show Steps p.tables e below (T2.setTop (mkF m 7 #[.val (.ref (n0 + ob0)), .val (.int i1), .val (.int x3), .unset, .unset] [])) _
    refine XS.aloadN X2.here hx rfl (hb hby d12_7) rfl rfl ?_
    show Steps p.tables e below (T2.setTop (mkF m 8 #[.val (.ref (n0 + ob0)), .val (.int i1), .val (.int x3), .unset, .unset] [(.ref (n0 + ob0))])) _
    refine st5 _ ?_
    show Steps p.tables e below (T5.setTop (mkF m 11 #[.val (.ref (n0 + ob0)), .val (.int i1), .val (.int x3), .unset, .unset] [(.ref (n0 + x4))])) _
    refine XS.iloadN X5.here hx rfl (hb hby d12_11) rfl ?_
    show Steps p.tables e below (T5.setTop (mkF m 12 #[.val (.ref (n0 + ob0)), .val (.int i1), .val (.int x3), .unset, .unset] [(.int x3), (.ref (n0 + x4))])) _
    refine ldW X5 hx hZ e5 O0 hx6 rfl (g := (mkF m 12 #[.val (.ref (n0 + ob0)), .val (.int i1), .val (.int x3), .unset, .unset] [(.int x3), (.ref (n0 + x4))])) rfl rfl (hb hby d12_12) _ ?_
    show Steps p.tables e below (T5.setTop (mkF m 13 #[.val (.ref (n0 + ob0)), .val (.int i1), .val (.int x3), .unset, .unset] [(.int x6)])) _
    refine XS.istoreN X5.here hx rfl (hb hby d12_13) rfl (l' := #[.val (.ref (n0 + ob0)), .val (.int i1), .val (.int x3), .val (.int x6), .unset]) rfl ?_
    show Steps p.tables e below (T5.setTop (mkF m 14 #[.val (.ref (n0 + ob0)), .val (.int i1), .val (.int x3), .val (.int x6), .unset] [])) _
    refine XS.aloadN X5.here hx rfl (hb hby d12_14) rfl rfl ?_
    show Steps p.tables e below (T5.setTop (mkF m 15 #[.val (.ref (n0 + ob0)), .val (.int i1), .val (.int x3), .val (.int x6), .unset] [(.ref (n0 + ob0))])) _
    refine st8 _ ?_
    show Steps p.tables e below (T8.setTop (mkF m 18 #[.val (.ref (n0 + ob0)), .val (.int i1), .val (.int x3), .val (.int x6), .unset] [(.ref (n0 + x7))])) _
    refine XS.iloadN X8.here hx rfl (hb hby d12_18) rfl ?_
    show Steps p.tables e below (T8.setTop (mkF m 19 #[.val (.ref (n0 + ob0)), .val (.int i1), .val (.int x3), .val (.int x6), .unset] [(.int x6), (.ref (n0 + x7))])) _
    refine ldW X8 hx hZ e8 O0 hx9 rfl (g := (mkF m 19 #[.val (.ref (n0 + ob0)), .val (.int i1), .val (.int x3), .val (.int x6), .unset] [(.int x6), (.ref (n0 + x7))])) rfl rfl (hb hby d12_19) _ ?_
    show Steps p.tables e below (T8.setTop (mkF m 20 #[.val (.ref (n0 + ob0)), .val (.int i1), .val (.int x3), .val (.int x6), .unset] [(.int x9)])) _
    refine XS.istore X8.here hx rfl (hb hby d12_20) rfl (l' := #[.val (.ref (n0 + ob0)), .val (.int i1), .val (.int x3), .val (.int x6), .val (.int x9)]) rfl ?_
    show Steps p.tables e below (T8.setTop (mkF m 22 #[.val (.ref (n0 + ob0)), .val (.int i1), .val (.int x3), .val (.int x6), .val (.int x9)] [])) _
    refine XS.aloadN X8.here hx rfl (hb hby d12_22) rfl rfl ?_
    show Steps p.tables e below (T8.setTop (mkF m 23 #[.val (.ref (n0 + ob0)), .val (.int i1), .val (.int x3), .val (.int x6), .val (.int x9)] [(.ref (n0 + ob0))])) _
    refine st11 _ ?_
    show Steps p.tables e below (T11.setTop (mkF m 26 #[.val (.ref (n0 + ob0)), .val (.int i1), .val (.int x3), .val (.int x6), .val (.int x9)] [(.ref (n0 + x10))])) _
    refine XS.iloadN X11.here hx rfl (hb hby d12_26) rfl ?_
    show Steps p.tables e below (T11.setTop (mkF m 27 #[.val (.ref (n0 + ob0)), .val (.int i1), .val (.int x3), .val (.int x6), .val (.int x9)] [(.int x3), (.ref (n0 + x10))])) _
    refine XS.iload X11.here hx rfl (hb hby d12_27) rfl ?_
    show Steps p.tables e below (T11.setTop (mkF m 29 #[.val (.ref (n0 + ob0)), .val (.int i1), .val (.int x3), .val (.int x6), .val (.int x9)] [(.int x9), (.int x3), (.ref (n0 + x10))])) _
    refine st12 _ ?_
    show Steps p.tables e below (T12.setTop (mkF m 30 #[.val (.ref (n0 + ob0)), .val (.int i1), .val (.int x3), .val (.int x6), .val (.int x9)] [])) _
    refine XS.aloadN X12.here hx rfl (hb hby d12_30) rfl rfl ?_
    show Steps p.tables e below (T12.setTop (mkF m 31 #[.val (.ref (n0 + ob0)), .val (.int i1), .val (.int x3), .val (.int x6), .val (.int x9)] [(.ref (n0 + ob0))])) _
    refine st14 _ ?_
    show Steps p.tables e below (T14.setTop (mkF m 34 #[.val (.ref (n0 + ob0)), .val (.int i1), .val (.int x3), .val (.int x6), .val (.int x9)] [(.ref (n0 + x13))])) _
    refine XS.iloadN X14.here hx rfl (hb hby d12_34) rfl ?_
    show Steps p.tables e below (T14.setTop (mkF m 35 #[.val (.ref (n0 + ob0)), .val (.int i1), .val (.int x3), .val (.int x6), .val (.int x9)] [(.int x6), (.ref (n0 + x13))])) _
    refine XS.iloadN X14.here hx rfl (hb hby d12_35) rfl ?_
    show Steps p.tables e below (T14.setTop (mkF m 36 #[.val (.ref (n0 + ob0)), .val (.int i1), .val (.int x3), .val (.int x6), .val (.int x9)] [(.int i1), (.int x6), (.ref (n0 + x13))])) _
    refine st15 _ ?_
    show Steps p.tables e below (T15.setTop (mkF m 37 #[.val (.ref (n0 + ob0)), .val (.int i1), .val (.int x3), .val (.int x6), .val (.int x9)] [])) _
    refine XS.aloadN X15.here hx rfl (hb hby d12_37) rfl rfl ?_
    show Steps p.tables e below (T15.setTop (mkF m 38 #[.val (.ref (n0 + ob0)), .val (.int i1), .val (.int x3), .val (.int x6), .val (.int x9)] [(.ref (n0 + ob0))])) _
    refine st17 _ ?_
    show Steps p.tables e below (T17.setTop (mkF m 41 #[.val (.ref (n0 + ob0)), .val (.int i1), .val (.int x3), .val (.int x6), .val (.int x9)] [(.ref (n0 + x16))])) _
    refine XS.iload X17.here hx rfl (hb hby d12_41) rfl ?_
    show Steps p.tables e below (T17.setTop (mkF m 43 #[.val (.ref (n0 + ob0)), .val (.int i1), .val (.int x3), .val (.int x6), .val (.int x9)] [(.int x9), (.ref (n0 + x16))])) _
    refine XS.iloadN X17.here hx rfl (hb hby d12_43) rfl ?_
    show Steps p.tables e below (T17.setTop (mkF m 44 #[.val (.ref (n0 + ob0)), .val (.int i1), .val (.int x3), .val (.int x6), .val (.int x9)] [(.int x3), (.int x9), (.ref (n0 + x16))])) _
    refine st18 _ ?_
    show Steps p.tables e below (T18.setTop (mkF m 45 #[.val (.ref (n0 + ob0)), .val (.int i1), .val (.int x3), .val (.int x6), .val (.int x9)] [])) _
    refine XS.aloadN X18.here hx rfl (hb hby d12_45) rfl rfl ?_
    show Steps p.tables e below (T18.setTop (mkF m 46 #[.val (.ref (n0 + ob0)), .val (.int i1), .val (.int x3), .val (.int x6), .val (.int x9)] [(.ref (n0 + ob0))])) _
    refine st20 _ ?_
    show Steps p.tables e below (T20.setTop (mkF m 49 #[.val (.ref (n0 + ob0)), .val (.int i1), .val (.int x3), .val (.int x6), .val (.int x9)] [(.ref (n0 + x19))])) _
    refine XS.iloadN X20.here hx rfl (hb hby d12_49) rfl ?_
    show Steps p.tables e below (T20.setTop (mkF m 50 #[.val (.ref (n0 + ob0)), .val (.int i1), .val (.int x3), .val (.int x6), .val (.int x9)] [(.int i1), (.ref (n0 + x19))])) _
    refine XS.iloadN X20.here hx rfl (hb hby d12_50) rfl ?_
    show Steps p.tables e below (T20.setTop (mkF m 51 #[.val (.ref (n0 + ob0)), .val (.int i1), .val (.int x3), .val (.int x6), .val (.int x9)] [(.int x6), (.int i1), (.ref (n0 + x19))])) _
    refine st21 _ ?_
    exact k
  obtain rfl := own_inj1 hf
  exact Gl.outV X21 hx hlk hret (hb hby d12_52) ⟨rfl, N21, by rw [e21]; exact O21⟩ (by show _ ≤ 0; omega) (by show _ ≤ 0; omega)
theorem d14_0 : decode prog_99_method_10_code 0 = .ok (.iload_n 1, 1) := by decide +kernel
theorem d14_1 : decode prog_99_method_10_code 1 = .ok (.iconst (-1), 1) := by decide +kernel
theorem d14_2 : decode prog_99_method_10_code 2 = .ok (.if_icmp .ne 7, 3) := by decide +kernel
theorem d14_5 : decode prog_99_method_10_code 5 = .ok (.iconst (-1), 1) := by decide +kernel
theorem d14_6 : decode prog_99_method_10_code 6 = .ok (.goto 9, 3) := by decide +kernel
theorem d14_9 : decode prog_99_method_10_code 9 = .ok (.aload_n 0, 1) := by decide +kernel
theorem d14_10 : decode prog_99_method_10_code 10 = .ok (.getfield 7, 3) := by decide +kernel
theorem d14_13 : decode prog_99_method_10_code 13 = .ok (.iload_n 1, 1) := by decide +kernel
theorem d14_14 : decode prog_99_method_10_code 14 = .ok (.iaload, 1) := by decide +kernel
theorem d14_15 : decode prog_99_method_10_code 15 = .ok (.ireturn, 1) := by decide +kernel
theorem pn_14 : plainName "com/example/planar_drawing_kit/planardrawingkit/inspect/SweepLine" = true := by first | (simp [plainName, overriddenIn]; done) | decide +kernel
def f14 (D : Hp) (ob0 : Nat) (i1 : Int32) : Option (Int32 × Hp) :=
  if i1 = (-1 : Int32) then (some ((-1 : Int32), D)) else ((gR D ob0 1 0).bind fun x2 =>
  (rI D x2 0 i1).bind fun x4 =>
  some (x4, D))
theorem ef_14 (m : MethodId) (n0 : Nat) (ob0 : Nat) (i1 : Int32) : entryFrame m #[(.ref (n0 + ob0)), (.int i1)] 2 = mkF m 0 #[.val (.ref (n0 + ob0)), .val (.int i1)] [] := by first | (simp [entryFrame, mkF, argsToLocals, Value.category]; done) | rfl
set_option maxRecDepth 65536 in
set_option maxHeartbeats 40000000 in
theorem ct14 {l : Launch} {Z : State} {a0 : Array Value} (hw : ∀ d ∈ tables_1, d.before a0 Z = true) {n0 : Nat} {D D' : Hp} {ob0 : Nat} {i1 : Int32} {r : Int32} (hf : f14 D ob0 i1 = some (r, D')) :
    Ct Kt1 l Z (⟨"com/example/planar_drawing_kit/planardrawingkit/inspect/SweepLine", "edgeOf", "(I)I"⟩ : MethodName) (.code (⟨"com/example/planar_drawing_kit/planardrawingkit/inspect/SweepLine", "edgeOf", "(I)I"⟩ : MethodName) prog_99_method_10_code 2 (some .int)) ({ frames := 0, cells := 0, slots := 0, locals := 0 } : Room) n0 D #[(.ref (n0 + ob0)), (.int i1)] (some (.int r)) D' := by
  refine Ct.of (plainFor_of_name pn_14) ?_
  intro p e s m below meth c T0 h0 hC X0 e0 O0
  obtain ⟨hx, hZ, hby, hml, hown, hnm, hret, hlk⟩ := id hC
  have hml : c.maxLocals = 2 := hml
  have hown : s.vm.findClass "com/example/planar_drawing_kit/planardrawingkit/inspect/SweepLine" = some m.cls := hown
  have hnm : meth.name = "edgeOf" := hnm
  have N0 := Fr.nil n0
  refine Gl.on (fun t k => castTop (ef_14 m n0 ob0 i1) k) ?_
  rw [f14] at hf
  refine Gl.on (B := T0.setTop (mkF m 2 #[.val (.ref (n0 + ob0)), .val (.int i1)] [(.int (-1 : Int32)), (.int i1)])) (fun t k => ?_) ?_
  · show Steps p.tables e below (T0.setTop (mkF m 0 #[.val (.ref (n0 + ob0)), .val (.int i1)] [])) _
    refine XS.iloadN X0.here hx rfl (hb hby d14_0) rfl ?_
    show Steps p.tables e below (T0.setTop (mkF m 1 #[.val (.ref (n0 + ob0)), .val (.int i1)] [(.int i1)])) _
    refine XS.iconst X0.here hx rfl (hb hby d14_1) ?_
    exact k
  by_cases hc1 : i1 = (-1 : Int32)
  · rw [if_pos hc1] at hf
    refine Gl.on (B := T0.setTop (mkF m 15 #[.val (.ref (n0 + ob0)), .val (.int i1)] [(.int (-1 : Int32))])) (fun t k => ?_) ?_
    · show Steps p.tables e below (T0.setTop (mkF m 2 #[.val (.ref (n0 + ob0)), .val (.int i1)] [(.int (-1 : Int32)), (.int i1)])) _
      refine XS.icmpNo X0.here hx rfl (hb hby d14_2) rfl (teq hc1).2 ?_
      show Steps p.tables e below (T0.setTop (mkF m 5 #[.val (.ref (n0 + ob0)), .val (.int i1)] [])) _
      refine XS.iconst X0.here hx rfl (hb hby d14_5) ?_
      show Steps p.tables e below (T0.setTop (mkF m 6 #[.val (.ref (n0 + ob0)), .val (.int i1)] [(.int (-1 : Int32))])) _
      refine XS.goto X0.here hx rfl (pc0 := 6) (pc' := 15) rfl (hb hby d14_6) (by decide) (by decide) ?_
      exact k
    obtain ⟨rfl, rfl⟩ := own_inj hf
    exact Gl.outI X0 hx hlk hret (hb hby d14_15) ⟨rfl, N0, by rw [e0]; exact O0⟩ (by show _ ≤ 0; omega) (by show _ ≤ 0; omega)
  · rw [if_neg hc1] at hf
    obtain ⟨x2, hx2, hf⟩ := own_bind hf
    obtain ⟨T3, X3, e3, st3⟩ := getF X0 hx hZ hown (host := "") (Or.inl (hw _ (List.mem_of_getElem? (i := 11) rfl))) Via.refl e0 (O0.fld (gR_e hx2) rfl rfl) (g := (mkF m 10 #[.val (.ref (n0 + ob0)), .val (.int i1)] [(.ref (n0 + ob0))])) rfl rfl (hb hby d14_10)
    obtain ⟨x4, hx4, hf⟩ := own_bind hf
    refine Gl.on (B := T3.setTop (mkF m 15 #[.val (.ref (n0 + ob0)), .val (.int i1)] [(.int x4)])) (fun t k => ?_) ?_
    · show Steps p.tables e below (T0.setTop (mkF m 2 #[.val (.ref (n0 + ob0)), .val (.int i1)] [(.int (-1 : Int32)), (.int i1)])) _
      refine XS.icmpYes X0.here hx rfl (pc0 := 2) (pc' := 9) rfl (hb hby d14_2) rfl (feq hc1).2 (by decide) (by decide) ?_
      show Steps p.tables e below (T0.setTop (mkF m 9 #[.val (.ref (n0 + ob0)), .val (.int i1)] [])) _
      refine XS.aloadN X0.here hx rfl (hb hby d14_9) rfl rfl ?_
      show Steps p.tables e below (T0.setTop (mkF m 10 #[.val (.ref (n0 + ob0)), .val (.int i1)] [(.ref (n0 + ob0))])) _
      refine st3 _ ?_
      show Steps p.tables e below (T3.setTop (mkF m 13 #[.val (.ref (n0 + ob0)), .val (.int i1)] [(.ref (n0 + x2))])) _
      refine XS.iloadN X3.here hx rfl (hb hby d14_13) rfl ?_
      show Steps p.tables e below (T3.setTop (mkF m 14 #[.val (.ref (n0 + ob0)), .val (.int i1)] [(.int i1), (.ref (n0 + x2))])) _
      refine ldW X3 hx hZ e3 O0 hx4 rfl (g := (mkF m 14 #[.val (.ref (n0 + ob0)), .val (.int i1)] [(.int i1), (.ref (n0 + x2))])) rfl rfl (hb hby d14_14) _ ?_
      exact k
    obtain ⟨rfl, rfl⟩ := own_inj hf
    exact Gl.outI X3 hx hlk hret (hb hby d14_15) ⟨rfl, N0, by rw [e3]; exact O0⟩ (by show _ ≤ 0; omega) (by show _ ≤ 0; omega)
theorem d13_0 : decode prog_99_method_2_code 0 = .ok (.aload_n 0, 1) := by decide +kernel
theorem d13_1 : decode prog_99_method_2_code 1 = .ok (.aload_n 0, 1) := by decide +kernel
theorem d13_2 : decode prog_99_method_2_code 2 = .ok (.getfield 35, 3) := by decide +kernel
theorem d13_5 : decode prog_99_method_2_code 5 = .ok (.invokevirtual 57, 3) := by decide +kernel
theorem d13_8 : decode prog_99_method_2_code 8 = .ok (.ireturn, 1) := by decide +kernel
theorem pn_13 : plainName "com/example/planar_drawing_kit/planardrawingkit/inspect/SweepLine" = true := by first | (simp [plainName, overriddenIn]; done) | decide +kernel
def f13 (D : Hp) (ob0 : Nat) : Option (Int32 × Hp) :=
  (gI D ob0 1 8).bind fun x1 =>
  (ck D ob0 1).bind fun u4 => (f14 D ob0 x1).bind fun q3 => own_let q3.1 fun x5 => own_let q3.2 fun D3 =>
  some (x5, D3)
theorem ef_13 (m : MethodId) (n0 : Nat) (ob0 : Nat) : entryFrame m #[(.ref (n0 + ob0))] 1 = mkF m 0 #[.val (.ref (n0 + ob0))] [] := by first | (simp [entryFrame, mkF, argsToLocals, Value.category]; done) | rfl
set_option maxRecDepth 65536 in
set_option maxHeartbeats 40000000 in
theorem ct13 {l : Launch} {Z : State} {a0 : Array Value} (hw : ∀ d ∈ tables_1, d.before a0 Z = true) {n0 : Nat} {D D' : Hp} {ob0 : Nat} {r : Int32} (hf : f13 D ob0 = some (r, D')) :
    Ct Kt1 l Z (⟨"com/example/planar_drawing_kit/planardrawingkit/inspect/SweepLine", "lowest", "()I"⟩ : MethodName) (.code (⟨"com/example/planar_drawing_kit/planardrawingkit/inspect/SweepLine", "lowest", "()I"⟩ : MethodName) prog_99_method_2_code 1 (some .int)) ({ frames := 1, cells := 0, slots := 0, locals := 13 } : Room) n0 D #[(.ref (n0 + ob0))] (some (.int r)) D' := by
  refine Ct.of (plainFor_of_name pn_13) ?_
  intro p e s m below meth c T0 h0 hC X0 e0 O0
  obtain ⟨hx, hZ, hby, hml, hown, hnm, hret, hlk⟩ := id hC
  have hml : c.maxLocals = 1 := hml
  have hown : s.vm.findClass "com/example/planar_drawing_kit/planardrawingkit/inspect/SweepLine" = some m.cls := hown
  have hnm : meth.name = "lowest" := hnm
  have N0 := Fr.nil n0
  refine Gl.on (fun t k => castTop (ef_13 m n0 ob0) k) ?_
  rw [f13] at hf
  obtain ⟨x1, hx1, hf⟩ := own_bind hf
  obtain ⟨T2, X2, e2, st2⟩ := getF X0 hx hZ hown (host := "") (Or.inl (hw _ (List.mem_of_getElem? (i := 27) rfl))) Via.refl e0 (O0.fld (gI_e hx1) rfl rfl) (g := (mkF m 2 #[.val (.ref (n0 + ob0))] [(.ref (n0 + ob0)), (.ref (n0 + ob0))])) rfl rfl (hb hby d13_2)
  obtain ⟨u4, hk3, hf⟩ := own_bind hf
  obtain ⟨⟨x5, D3⟩, hq3, hf⟩ := own_bind hf
  obtain ⟨_, rfl, hf⟩ := own_letE hf
  obtain ⟨_, rfl, hf⟩ := own_letE hf
  obtain ⟨T3, h3, L3, X3, e3, O3, N3, st3⟩ := callPW X2 hx hZ (y := (⟨"com/example/planar_drawing_kit/planardrawingkit/inspect/SweepLine", "edgeOf", "(I)I"⟩ : MethodName)) hown (hw _ (List.mem_of_getElem? (i := 89) rfl)) (hw _ (List.mem_of_getElem? (i := 91) rfl)) (hw _ (List.mem_of_getElem? (i := 2) rfl)) (hw _ (List.mem_of_getElem? (i := 90) rfl)) (hw _ (List.mem_of_getElem? (i := 3) rfl)) (hw _ (List.mem_of_getElem? (i := 92) rfl)) (by decide) e2 O0 N0 hk3 rfl (as' := [(.int x1)]) (ct14 hw hq3) (W := 0) (kc := 0) (ks := 0) rfl rfl (by decide) (by decide) (g := (mkF m 5 #[.val (.ref (n0 + ob0))] [(.int x1), (.ref (n0 + ob0))])) rfl (by rw [hml]; rfl) (rest := []) (lenOf pd_5 rfl) rfl (by show 2 * 0 + _ ≤ _; exact Nat.le_of_eq rfl) (hb hby d13_5) (by show _ + 0 ≤ 0; omega) (by show _ + 0 ≤ 0; omega)
  refine Gl.on (B := T3.setTop (mkF m 8 #[.val (.ref (n0 + ob0))] [(.int x5)])) (fun t k => ?_) ?_
  · show Steps p.tables e below (T0.setTop (mkF m 0 #[.val (.ref (n0 + ob0))] [])) _
    refine XS.aloadN X0.here hx rfl (hb hby d13_0) rfl rfl ?_
    show Steps p.tables e below (T0.setTop (mkF m 1 #[.val (.ref (n0 + ob0))] [(.ref (n0 + ob0))])) _
    refine XS.aloadN X0.here hx rfl (hb hby d13_1) rfl rfl ?_
    show Steps p.tables e below (T0.setTop (mkF m 2 #[.val (.ref (n0 + ob0))] [(.ref (n0 + ob0)), (.ref (n0 + ob0))])) _
    refine st2 _ ?_
    show Steps p.tables e below (T2.setTop (mkF m 5 #[.val (.ref (n0 + ob0))] [(.int x1), (.ref (n0 + ob0))])) _
    refine st3 _ ?_
    exact k
  obtain ⟨rfl, rfl⟩ := own_inj hf
  exact Gl.outI X3 hx hlk hret (hb hby d13_8) ⟨rfl, N3, by rw [e3]; exact O3⟩ (by show _ ≤ 0; omega) (by show _ ≤ 0; omega)
theorem d15_0 : decode prog_99_method_3_code 0 = .ok (.aload_n 0, 1) := by decide +kernel
theorem d15_1 : decode prog_99_method_3_code 1 = .ok (.aload_n 0, 1) := by decide +kernel
theorem d15_2 : decode prog_99_method_3_code 2 = .ok (.getfield 38, 3) := by decide +kernel
theorem d15_5 : decode prog_99_method_3_code 5 = .ok (.invokevirtual 57, 3) := by decide +kernel
theorem d15_8 : decode prog_99_method_3_code 8 = .ok (.ireturn, 1) := by decide +kernel
theorem pn_15 : plainName "com/example/planar_drawing_kit/planardrawingkit/inspect/SweepLine" = true := by first | (simp [plainName, overriddenIn]; done) | decide +kernel
def f15 (D : Hp) (ob0 : Nat) : Option (Int32 × Hp) :=
  (gI D ob0 1 9).bind fun x1 =>
  (ck D ob0 1).bind fun u4 => (f14 D ob0 x1).bind fun q3 => own_let q3.1 fun x5 => own_let q3.2 fun D3 =>
  some (x5, D3)
theorem ef_15 (m : MethodId) (n0 : Nat) (ob0 : Nat) : entryFrame m #[(.ref (n0 + ob0))] 1 = mkF m 0 #[.val (.ref (n0 + ob0))] [] := by first | (simp [entryFrame, mkF, argsToLocals, Value.category]; done) | rfl
set_option maxRecDepth 65536 in
set_option maxHeartbeats 40000000 in
theorem ct15 {l : Launch} {Z : State} {a0 : Array Value} (hw : ∀ d ∈ tables_1, d.before a0 Z = true) {n0 : Nat} {D D' : Hp} {ob0 : Nat} {r : Int32} (hf : f15 D ob0 = some (r, D')) :
    Ct Kt1 l Z (⟨"com/example/planar_drawing_kit/planardrawingkit/inspect/SweepLine", "highest", "()I"⟩ : MethodName) (.code (⟨"com/example/planar_drawing_kit/planardrawingkit/inspect/SweepLine", "highest", "()I"⟩ : MethodName) prog_99_method_3_code 1 (some .int)) ({ frames := 1, cells := 0, slots := 0, locals := 13 } : Room) n0 D #[(.ref (n0 + ob0))] (some (.int r)) D' := by
  refine Ct.of (plainFor_of_name pn_15) ?_
  intro p e s m below meth c T0 h0 hC X0 e0 O0
  obtain ⟨hx, hZ, hby, hml, hown, hnm, hret, hlk⟩ := id hC
  have hml : c.maxLocals = 1 := hml
  have hown : s.vm.findClass "com/example/planar_drawing_kit/planardrawingkit/inspect/SweepLine" = some m.cls := hown
  have hnm : meth.name = "highest" := hnm
  have N0 := Fr.nil n0
  refine Gl.on (fun t k => castTop (ef_15 m n0 ob0) k) ?_
  rw [f15] at hf
  obtain ⟨x1, hx1, hf⟩ := own_bind hf
  obtain ⟨T2, X2, e2, st2⟩ := getF X0 hx hZ hown (host := "") (Or.inl (hw _ (List.mem_of_getElem? (i := 29) rfl))) Via.refl e0 (O0.fld (gI_e hx1) rfl rfl) (g := (mkF m 2 #[.val (.ref (n0 + ob0))] [(.ref (n0 + ob0)), (.ref (n0 + ob0))])) rfl rfl (hb hby d15_2)
  obtain ⟨u4, hk3, hf⟩ := own_bind hf
  obtain ⟨⟨x5, D3⟩, hq3, hf⟩ := own_bind hf
  obtain ⟨_, rfl, hf⟩ := own_letE hf
  obtain ⟨_, rfl, hf⟩ := own_letE hf
  obtain ⟨T3, h3, L3, X3, e3, O3, N3, st3⟩ := callPW X2 hx hZ (y := (⟨"com/example/planar_drawing_kit/planardrawingkit/inspect/SweepLine", "edgeOf", "(I)I"⟩ : MethodName)) hown (hw _ (List.mem_of_getElem? (i := 89) rfl)) (hw _ (List.mem_of_getElem? (i := 91) rfl)) (hw _ (List.mem_of_getElem? (i := 2) rfl)) (hw _ (List.mem_of_getElem? (i := 90) rfl)) (hw _ (List.mem_of_getElem? (i := 3) rfl)) (hw _ (List.mem_of_getElem? (i := 92) rfl)) (by decide) e2 O0 N0 hk3 rfl (as' := [(.int x1)]) (ct14 hw hq3) (W := 0) (kc := 0) (ks := 0) rfl rfl (by decide) (by decide) (g := (mkF m 5 #[.val (.ref (n0 + ob0))] [(.int x1), (.ref (n0 + ob0))])) rfl (by rw [hml]; rfl) (rest := []) (lenOf pd_5 rfl) rfl (by show 2 * 0 + _ ≤ _; exact Nat.le_of_eq rfl) (hb hby d15_5) (by show _ + 0 ≤ 0; omega) (by show _ + 0 ≤ 0; omega)
  refine Gl.on (B := T3.setTop (mkF m 8 #[.val (.ref (n0 + ob0))] [(.int x5)])) (fun t k => ?_) ?_
  · show Steps p.tables e below (T0.setTop (mkF m 0 #[.val (.ref (n0 + ob0))] [])) _
    refine XS.aloadN X0.here hx rfl (hb hby d15_0) rfl rfl ?_
    show Steps p.tables e below (T0.setTop (mkF m 1 #[.val (.ref (n0 + ob0))] [(.ref (n0 + ob0))])) _
    refine XS.aloadN X0.here hx rfl (hb hby d15_1) rfl rfl ?_
    show Steps p.tables e below (T0.setTop (mkF m 2 #[.val (.ref (n0 + ob0))] [(.ref (n0 + ob0)), (.ref (n0 + ob0))])) _
    refine st2 _ ?_
    show Steps p.tables e below (T2.setTop (mkF m 5 #[.val (.ref (n0 + ob0))] [(.int x1), (.ref (n0 + ob0))])) _
    refine st3 _ ?_
    exact k
  obtain ⟨rfl, rfl⟩ := own_inj hf
  exact Gl.outI X3 hx hlk hret (hb hby d15_8) ⟨rfl, N3, by rw [e3]; exact O3⟩ (by show _ ≤ 0; omega) (by show _ ≤ 0; omega)
theorem d16_0 : decode prog_99_method_5_code 0 = .ok (.aload_n 0, 1) := by decide +kernel
theorem d16_1 : decode prog_99_method_5_code 1 = .ok (.aload_n 0, 1) := by decide +kernel
theorem d16_2 : decode prog_99_method_5_code 2 = .ok (.getfield 28, 3) := by decide +kernel
theorem d16_5 : decode prog_99_method_5_code 5 = .ok (.aload_n 0, 1) := by decide +kernel
theorem d16_6 : decode prog_99_method_5_code 6 = .ok (.getfield 48, 3) := by decide +kernel
theorem d16_9 : decode prog_99_method_5_code 9 = .ok (.iload_n 1, 1) := by decide +kernel
theorem d16_10 : decode prog_99_method_5_code 10 = .ok (.iaload, 1) := by decide +kernel
theorem d16_11 : decode prog_99_method_5_code 11 = .ok (.iaload, 1) := by decide +kernel
theorem d16_12 : decode prog_99_method_5_code 12 = .ok (.invokevirtual 57, 3) := by decide +kernel
theorem d16_15 : decode prog_99_method_5_code 15 = .ok (.ireturn, 1) := by decide +kernel
theorem pn_16 : plainName "com/example/planar_drawing_kit/planardrawingkit/inspect/SweepLine" = true := by first | (simp [plainName, overriddenIn]; done) | decide +kernel
def f16 (D : Hp) (ob0 : Nat) (i1 : Int32) : Option (Int32 × Hp) :=
  (gR D ob0 1 6).bind fun x1 =>
  (gR D ob0 1 12).bind fun x3 =>
  (rI D x3 0 i1).bind fun x5 =>
  (rI D x1 0 x5).bind fun x6 =>
  (ck D ob0 1).bind fun u8 => (f14 D ob0 x6).bind fun q7 => own_let q7.1 fun x9 => own_let q7.2 fun D7 =>
  some (x9, D7)
theorem ef_16 (m : MethodId) (n0 : Nat) (ob0 : Nat) (i1 : Int32) : entryFrame m #[(.ref (n0 + ob0)), (.int i1)] 2 = mkF m 0 #[.val (.ref (n0 + ob0)), .val (.int i1)] [] := by first | (simp [entryFrame, mkF, argsToLocals, Value.category]; done) | rfl
set_option maxRecDepth 65536 in
set_option maxHeartbeats 40000000 in
theorem ct16 {l : Launch} {Z : State} {a0 : Array Value} (hw : ∀ d ∈ tables_1, d.before a0 Z = true) {n0 : Nat} {D D' : Hp} {ob0 : Nat} {i1 : Int32} {r : Int32} (hf : f16 D ob0 i1 = some (r, D')) :
    Ct Kt1 l Z (⟨"com/example/planar_drawing_kit/planardrawingkit/inspect/SweepLine", "above", "(I)I"⟩ : MethodName) (.code (⟨"com/example/planar_drawing_kit/planardrawingkit/inspect/SweepLine", "above", "(I)I"⟩ : MethodName) prog_99_method_5_code 2 (some .int)) ({ frames := 1, cells := 0, slots := 0, locals := 13 } : Room) n0 D #[(.ref (n0 + ob0)), (.int i1)] (some (.int r)) D' := by
  refine Ct.of (plainFor_of_name pn_16) ?_
  intro p e s m below meth c T0 h0 hC X0 e0 O0
  obtain ⟨hx, hZ, hby, hml, hown, hnm, hret, hlk⟩ := id hC
  have hml : c.maxLocals = 2 := hml
  have hown : s.vm.findClass "com/example/planar_drawing_kit/planardrawingkit/inspect/SweepLine" = some m.cls := hown
  have hnm : meth.name = "above" := hnm
  have N0 := Fr.nil n0
  refine Gl.on (fun t k => castTop (ef_16 m n0 ob0 i1) k) ?_
  rw [f16] at hf
  obtain ⟨x1, hx1, hf⟩ := own_bind hf
  obtain ⟨T2, X2, e2, st2⟩ := getF X0 hx hZ hown (host := "") (Or.inl (hw _ (List.mem_of_getElem? (i := 23) rfl))) Via.refl e0 (O0.fld (gR_e hx1) rfl rfl) (g := (mkF m 2 #[.val (.ref (n0 + ob0)), .val (.int i1)] [(.ref (n0 + ob0)), (.ref (n0 + ob0))])) rfl rfl (hb hby d16_2)
  obtain ⟨x3, hx3, hf⟩ := own_bind hf
  obtain ⟨T4, X4, e4, st4⟩ := getF X2 hx hZ hown (host := "") (Or.inl (hw _ (List.mem_of_getElem? (i := 36) rfl))) Via.refl e2 (O0.fld (gR_e hx3) rfl rfl) (g := (mkF m 6 #[.val (.ref (n0 + ob0)), .val (.int i1)] [(.ref (n0 + ob0)), (.ref (n0 + x1)), (.ref (n0 + ob0))])) rfl rfl (hb hby d16_6)
  obtain ⟨x5, hx5, hf⟩ := own_bind hf
  obtain ⟨x6, hx6, hf⟩ := own_bind hf
  obtain ⟨u8, hk7, hf⟩ := own_bind hf
  obtain ⟨⟨x9, D7⟩, hq7, hf⟩ := own_bind hf
  obtain ⟨_, rfl, hf⟩ := own_letE hf
  obtain ⟨_, rfl, hf⟩ := own_letE hf
  obtain ⟨T7, h7, L7, X7, e7, O7, N7, st7⟩ := callPW X4 hx hZ (y := (⟨"com/example/planar_drawing_kit/planardrawingkit/inspect/SweepLine", "edgeOf", "(I)I"⟩ : MethodName)) hown (hw _ (List.mem_of_getElem? (i := 89) rfl)) (hw _ (List.mem_of_getElem? (i := 91) rfl)) (hw _ (List.mem_of_getElem? (i := 2) rfl)) (hw _ (List.mem_of_getElem? (i := 90) rfl)) (hw _ (List.mem_of_getElem? (i := 3) rfl)) (hw _ (List.mem_of_getElem? (i := 92) rfl)) (by decide) e4 O0 N0 hk7 rfl (as' := [(.int x6)]) (ct14 hw hq7) (W := 0) (kc := 0) (ks := 0) rfl rfl (by decide) (by decide) (g := (mkF m 12 #[.val (.ref (n0 + ob0)), .val (.int i1)] [(.int x6), (.ref (n0 + ob0))])) rfl (by rw [hml]; rfl) (rest := []) (lenOf pd_5 rfl) rfl (by show 2 * 0 + _ ≤ _; exact Nat.le_of_eq rfl) (hb hby d16_12) (by show _ + 0 ≤ 0; omega) (by show _ + 0 ≤ 0; omega)
  refine Gl.on (B := T7.setTop (mkF m 15 #[.val (.ref (n0 + ob0)), .val (.int i1)] [(.int x9)])) (fun t k => ?_) ?_
  · show Steps p.tables e below (T0.setTop (mkF m 0 #[.val (.ref (n0 + ob0)), .val (.int i1)] [])) _
    refine XS.aloadN X0.here hx rfl (hb hby d16_0) rfl rfl ?_
    show Steps p.tables e below (T0.setTop (mkF m 1 #[.val (.ref (n0 + ob0)), .val (.int i1)] [(.ref (n0 + ob0))])) _
    refine XS.aloadN X0.here hx rfl (hb hby d16_1) rfl rfl ?_
    show Steps p.tables e below (T0.setTop (mkF m 2 #[.val (.ref (n0 + ob0)), .val (.int i1)] [(.ref (n0 + ob0)), (.ref (n0 + ob0))])) _
    refine st2 _ ?_
    show Steps p.tables e below (T2.setTop (mkF m 5 #[.val (.ref (n0 + ob0)), .val (.int i1)] [(.ref (n0 + x1)), (.ref (n0 + ob0))])) _
    refine XS.aloadN X2.here hx rfl (hb hby d16_5) rfl rfl ?_
    show Steps p.tables e below (T2.setTop (mkF m 6 #[.val (.ref (n0 + ob0)), .val (.int i1)] [(.ref (n0 + ob0)), (.ref (n0 + x1)), (.ref (n0 + ob0))])) _
    refine st4 _ ?_
    show Steps p.tables e below (T4.setTop (mkF m 9 #[.val (.ref (n0 + ob0)), .val (.int i1)] [(.ref (n0 + x3)), (.ref (n0 + x1)), (.ref (n0 + ob0))])) _
    refine XS.iloadN X4.here hx rfl (hb hby d16_9) rfl ?_
    show Steps p.tables e below (T4.setTop (mkF m 10 #[.val (.ref (n0 + ob0)), .val (.int i1)] [(.int i1), (.ref (n0 + x3)), (.ref (n0 + x1)), (.ref (n0 + ob0))])) _
    refine ldW X4 hx hZ e4 O0 hx5 rfl (g := (mkF m 10 #[.val (.ref (n0 + ob0)), .val (.int i1)] [(.int i1), (.ref (n0 + x3)), (.ref (n0 + x1)), (.ref (n0 + ob0))])) rfl rfl (hb hby d16_10) _ ?_
    show Steps p.tables e below (T4.setTop (mkF m 11 #[.val (.ref (n0 + ob0)), .val (.int i1)] [(.int x5), (.ref (n0 + x1)), (.ref (n0 + ob0))])) _
    refine ldW X4 hx hZ e4 O0 hx6 rfl (g := (mkF m 11 #[.val (.ref (n0 + ob0)), .val (.int i1)] [(.int x5), (.ref (n0 + x1)), (.ref (n0 + ob0))])) rfl rfl (hb hby d16_11) _ ?_
    show Steps p.tables e below (T4.setTop (mkF m 12 #[.val (.ref (n0 + ob0)), .val (.int i1)] [(.int x6), (.ref (n0 + ob0))])) _
    refine st7 _ ?_
    exact k
  obtain ⟨rfl, rfl⟩ := own_inj hf
  exact Gl.outI X7 hx hlk hret (hb hby d16_15) ⟨rfl, N7, by rw [e7]; exact O7⟩ (by show _ ≤ 0; omega) (by show _ ≤ 0; omega)
theorem d17_0 : decode prog_99_method_4_code 0 = .ok (.aload_n 0, 1) := by decide +kernel
theorem d17_1 : decode prog_99_method_4_code 1 = .ok (.aload_n 0, 1) := by decide +kernel
theorem d17_2 : decode prog_99_method_4_code 2 = .ok (.getfield 25, 3) := by decide +kernel
theorem d17_5 : decode prog_99_method_4_code 5 = .ok (.aload_n 0, 1) := by decide +kernel
theorem d17_6 : decode prog_99_method_4_code 6 = .ok (.getfield 48, 3) := by decide +kernel
theorem d17_9 : decode prog_99_method_4_code 9 = .ok (.iload_n 1, 1) := by decide +kernel
theorem d17_10 : decode prog_99_method_4_code 10 = .ok (.iaload, 1) := by decide +kernel
theorem d17_11 : decode prog_99_method_4_code 11 = .ok (.iaload, 1) := by decide +kernel
theorem d17_12 : decode prog_99_method_4_code 12 = .ok (.invokevirtual 57, 3) := by decide +kernel
theorem d17_15 : decode prog_99_method_4_code 15 = .ok (.ireturn, 1) := by decide +kernel
theorem pn_17 : plainName "com/example/planar_drawing_kit/planardrawingkit/inspect/SweepLine" = true := by first | (simp [plainName, overriddenIn]; done) | decide +kernel
def f17 (D : Hp) (ob0 : Nat) (i1 : Int32) : Option (Int32 × Hp) :=
  (gR D ob0 1 5).bind fun x1 =>
  (gR D ob0 1 12).bind fun x3 =>
  (rI D x3 0 i1).bind fun x5 =>
  (rI D x1 0 x5).bind fun x6 =>
  (ck D ob0 1).bind fun u8 => (f14 D ob0 x6).bind fun q7 => own_let q7.1 fun x9 => own_let q7.2 fun D7 =>
  some (x9, D7)
theorem ef_17 (m : MethodId) (n0 : Nat) (ob0 : Nat) (i1 : Int32) : entryFrame m #[(.ref (n0 + ob0)), (.int i1)] 2 = mkF m 0 #[.val (.ref (n0 + ob0)), .val (.int i1)] [] := by first | (simp [entryFrame, mkF, argsToLocals, Value.category]; done) | rfl
set_option maxRecDepth 65536 in
set_option maxHeartbeats 40000000 in
theorem ct17 {l : Launch} {Z : State} {a0 : Array Value} (hw : ∀ d ∈ tables_1, d.before a0 Z = true) {n0 : Nat} {D D' : Hp} {ob0 : Nat} {i1 : Int32} {r : Int32} (hf : f17 D ob0 i1 = some (r, D')) :
    Ct Kt1 l Z (⟨"com/example/planar_drawing_kit/planardrawingkit/inspect/SweepLine", "below", "(I)I"⟩ : MethodName) (.code (⟨"com/example/planar_drawing_kit/planardrawingkit/inspect/SweepLine", "below", "(I)I"⟩ : MethodName) prog_99_method_4_code 2 (some .int)) ({ frames := 1, cells := 0, slots := 0, locals := 13 } : Room) n0 D #[(.ref (n0 + ob0)), (.int i1)] (some (.int r)) D' := by
  refine Ct.of (plainFor_of_name pn_17) ?_
  intro p e s m below meth c T0 h0 hC X0 e0 O0
  obtain ⟨hx, hZ, hby, hml, hown, hnm, hret, hlk⟩ := id hC
  have hml : c.maxLocals = 2 := hml
  have hown : s.vm.findClass "com/example/planar_drawing_kit/planardrawingkit/inspect/SweepLine" = some m.cls := hown
  have hnm : meth.name = "below" := hnm
  have N0 := Fr.nil n0
  refine Gl.on (fun t k => castTop (ef_17 m n0 ob0 i1) k) ?_
  rw [f17] at hf
  obtain ⟨x1, hx1, hf⟩ := own_bind hf
  obtain ⟨T2, X2, e2, st2⟩ := getF X0 hx hZ hown (host := "") (Or.inl (hw _ (List.mem_of_getElem? (i := 21) rfl))) Via.refl e0 (O0.fld (gR_e hx1) rfl rfl) (g := (mkF m 2 #[.val (.ref (n0 + ob0)), .val (.int i1)] [(.ref (n0 + ob0)), (.ref (n0 + ob0))])) rfl rfl (hb hby d17_2)
  obtain ⟨x3, hx3, hf⟩ := own_bind hf
  obtain ⟨T4, X4, e4, st4⟩ := getF X2 hx hZ hown (host := "") (Or.inl (hw _ (List.mem_of_getElem? (i := 36) rfl))) Via.refl e2 (O0.fld (gR_e hx3) rfl rfl) (g := (mkF m 6 #[.val (.ref (n0 + ob0)), .val (.int i1)] [(.ref (n0 + ob0)), (.ref (n0 + x1)), (.ref (n0 + ob0))])) rfl rfl (hb hby d17_6)
  obtain ⟨x5, hx5, hf⟩ := own_bind hf
  obtain ⟨x6, hx6, hf⟩ := own_bind hf
  obtain ⟨u8, hk7, hf⟩ := own_bind hf
  obtain ⟨⟨x9, D7⟩, hq7, hf⟩ := own_bind hf
  obtain ⟨_, rfl, hf⟩ := own_letE hf
  obtain ⟨_, rfl, hf⟩ := own_letE hf
  obtain ⟨T7, h7, L7, X7, e7, O7, N7, st7⟩ := callPW X4 hx hZ (y := (⟨"com/example/planar_drawing_kit/planardrawingkit/inspect/SweepLine", "edgeOf", "(I)I"⟩ : MethodName)) hown (hw _ (List.mem_of_getElem? (i := 89) rfl)) (hw _ (List.mem_of_getElem? (i := 91) rfl)) (hw _ (List.mem_of_getElem? (i := 2) rfl)) (hw _ (List.mem_of_getElem? (i := 90) rfl)) (hw _ (List.mem_of_getElem? (i := 3) rfl)) (hw _ (List.mem_of_getElem? (i := 92) rfl)) (by decide) e4 O0 N0 hk7 rfl (as' := [(.int x6)]) (ct14 hw hq7) (W := 0) (kc := 0) (ks := 0) rfl rfl (by decide) (by decide) (g := (mkF m 12 #[.val (.ref (n0 + ob0)), .val (.int i1)] [(.int x6), (.ref (n0 + ob0))])) rfl (by rw [hml]; rfl) (rest := []) (lenOf pd_5 rfl) rfl (by show 2 * 0 + _ ≤ _; exact Nat.le_of_eq rfl) (hb hby d17_12) (by show _ + 0 ≤ 0; omega) (by show _ + 0 ≤ 0; omega)
  refine Gl.on (B := T7.setTop (mkF m 15 #[.val (.ref (n0 + ob0)), .val (.int i1)] [(.int x9)])) (fun t k => ?_) ?_
  · show Steps p.tables e below (T0.setTop (mkF m 0 #[.val (.ref (n0 + ob0)), .val (.int i1)] [])) _
    refine XS.aloadN X0.here hx rfl (hb hby d17_0) rfl rfl ?_
    show Steps p.tables e below (T0.setTop (mkF m 1 #[.val (.ref (n0 + ob0)), .val (.int i1)] [(.ref (n0 + ob0))])) _
    refine XS.aloadN X0.here hx rfl (hb hby d17_1) rfl rfl ?_
    show Steps p.tables e below (T0.setTop (mkF m 2 #[.val (.ref (n0 + ob0)), .val (.int i1)] [(.ref (n0 + ob0)), (.ref (n0 + ob0))])) _
    refine st2 _ ?_
    show Steps p.tables e below (T2.setTop (mkF m 5 #[.val (.ref (n0 + ob0)), .val (.int i1)] [(.ref (n0 + x1)), (.ref (n0 + ob0))])) _
    refine XS.aloadN X2.here hx rfl (hb hby d17_5) rfl rfl ?_
    show Steps p.tables e below (T2.setTop (mkF m 6 #[.val (.ref (n0 + ob0)), .val (.int i1)] [(.ref (n0 + ob0)), (.ref (n0 + x1)), (.ref (n0 + ob0))])) _
    refine st4 _ ?_
    show Steps p.tables e below (T4.setTop (mkF m 9 #[.val (.ref (n0 + ob0)), .val (.int i1)] [(.ref (n0 + x3)), (.ref (n0 + x1)), (.ref (n0 + ob0))])) _
    refine XS.iloadN X4.here hx rfl (hb hby d17_9) rfl ?_
    show Steps p.tables e below (T4.setTop (mkF m 10 #[.val (.ref (n0 + ob0)), .val (.int i1)] [(.int i1), (.ref (n0 + x3)), (.ref (n0 + x1)), (.ref (n0 + ob0))])) _
    refine ldW X4 hx hZ e4 O0 hx5 rfl (g := (mkF m 10 #[.val (.ref (n0 + ob0)), .val (.int i1)] [(.int i1), (.ref (n0 + x3)), (.ref (n0 + x1)), (.ref (n0 + ob0))])) rfl rfl (hb hby d17_10) _ ?_
    show Steps p.tables e below (T4.setTop (mkF m 11 #[.val (.ref (n0 + ob0)), .val (.int i1)] [(.int x5), (.ref (n0 + x1)), (.ref (n0 + ob0))])) _
    refine ldW X4 hx hZ e4 O0 hx6 rfl (g := (mkF m 11 #[.val (.ref (n0 + ob0)), .val (.int i1)] [(.int x5), (.ref (n0 + x1)), (.ref (n0 + ob0))])) rfl rfl (hb hby d17_11) _ ?_
    show Steps p.tables e below (T4.setTop (mkF m 12 #[.val (.ref (n0 + ob0)), .val (.int i1)] [(.int x6), (.ref (n0 + ob0))])) _
    refine st7 _ ?_
    exact k
  obtain ⟨rfl, rfl⟩ := own_inj hf
  exact Gl.outI X7 hx hlk hret (hb hby d17_15) ⟨rfl, N7, by rw [e7]; exact O7⟩ (by show _ ≤ 0; omega) (by show _ ≤ 0; omega)
theorem pd_7 : parseMethodDescriptor "(II)V" = some ⟨[.int, .int], none⟩ := by decide +kernel
theorem pd_8 : parseMethodDescriptor "()I" = some ⟨[], some .int⟩ := by decide +kernel
theorem pn_0 : plainName "com/example/planar_drawing_kit/planardrawingkit/inspect/SweepLineSwapWithAbovePinLaw" = true := by first | (simp [plainName, overriddenIn]; done) | decide +kernel
def b0_374 (D : Hp) (i11 : Int32) (ob12 : Nat) (i13 : Int32) (t0 : Int32) : Option (Int32 × Hp) :=
  if t0 = (0 : Int32) then (some ((0 : Int32), D)) else ((ck D ob12 1).bind fun u66 => (f17 D ob12 i13).bind fun q65 => own_let q65.1 fun x67 => own_let q65.2 fun D65 =>
  if x67 = i11 then (some ((1 : Int32), D65)) else (some ((0 : Int32), D65)))
set_option maxRecDepth 65536 in
set_option maxHeartbeats 40000000 in
theorem bt0_374 {p : Program} {l : Launch} {e : Env} {s : State} {m : MethodId} {args : Array Value} {below : List Frame} {meth : Method} {c : Code} {Z : State} {a0 : Array Value} {n0 : Nat} {D' : Hp} {r : Int32} {T0 : State} {locs : List Loc} {cells slots : Nat} {h0 : Heap} {D : Hp} {i0 : Int32} {i1 : Int32} {i2 : Int32} {i3 : Int32} {i4 : Int32} {i5 : Int32} {i6 : Int32} {i7 : Int32} {i8 : Int32} {i9 : Int32} {i10 : Int32} {i11 : Int32} {ob12 : Nat} {i13 : Int32} {i14 : Int32} {i15 : Int32} {i16 : Int32} {t0 : Int32} (hw : ∀ d ∈ tables_1, d.before a0 Z = true) (hC : Cx p s m meth c Z code maxLocals ret "com/example/planar_drawing_kit/planardrawingkit/inspect/SweepLineSwapWithAbovePinLaw" "law") (X0 : Stand p l e room_1 s m args below meth c T0 locs cells slots) (e0 : T0.heap = h0) (O0 : Ow Kt1 Z h0 n0 D) (N0 : Fr n0 locs) (hcc : cells ≤ 30) (hss : slots ≤ 354) (hf : b0_374 D i11 ob12 i13 t0 = some (r, D')) : Gl p e below s 40 384 (Qw Kt1 Z n0 (some (.int r)) D') (T0.setTop (mkF m 374 #[.val (.int i0), .val (.int i1), .val (.int i2), .val (.int i3), .val (.int i4), .val (.int i5), .val (.int i6), .val (.int i7), .val (.int i8), .val (.int i9), .val (.int i10), .val (.int i11), .val (.ref (n0 + ob12)), .val (.int i13), .val (.int i14), .val (.int i15), .val (.int i16)] [(.int t0)])) := by
  obtain ⟨hx, hZ, hby, hml, hown, hnm, hret, hlk⟩ := id hC
  have hml : c.maxLocals = 17 := hml
  rw [b0_374] at hf
  refine Gl.on (B := T0.setTop (mkF m 378 #[.val (.int i0), .val (.int i1), .val (.int i2), .val (.int i3), .val (.int i4), .val (.int i5), .val (.int i6), .val (.int i7), .val (.int i8), .val (.int i9), .val (.int i10), .val (.int i11), .val (.ref (n0 + ob12)), .val (.int i13), .val (.int i14), .val (.int i15), .val (.int t0)] [(.int t0)])) (fun t k => ?_) ?_
  · show Steps p.tables e below (T0.setTop (mkF m 374 #[.val (.int i0), .val (.int i1), .val (.int i2), .val (.int i3), .val (.int i4), .val (.int i5), .val (.int i6), .val (.int i7), .val (.int i8), .val (.int i9), .val (.int i10), .val (.int i11), .val (.ref (n0 + ob12)), .val (.int i13), .val (.int i14), .val (.int i15), .val (.int i16)] [(.int t0)])) _
    refine XS.istore X0.here hx rfl (hb hby at_374) rfl (l' := #[.val (.int i0), .val (.int i1), .val (.int i2), .val (.int i3), .val (.int i4), .val (.int i5), .val (.int i6), .val (.int i7), .val (.int i8), .val (.int i9), .val (.int i10), .val (.int i11), .val (.ref (n0 + ob12)), .val (.int i13), .val (.int i14), .val (.int i15), .val (.int t0)]) rfl ?_
    show Steps p.tables e below (T0.setTop (mkF m 376 #[.val (.int i0), .val (.int i1), .val (.int i2), .val (.int i3), .val (.int i4), .val (.int i5), .val (.int i6), .val (.int i7), .val (.int i8), .val (.int i9), .val (.int i10), .val (.int i11), .val (.ref (n0 + ob12)), .val (.int i13), .val (.int i14), .val (.int i15), .val (.int t0)] [])) _
    refine XS.iload X0.here hx rfl (hb hby at_376) rfl ?_
    exact k
  by_cases hc64 : t0 = (0 : Int32)
  · rw [if_pos hc64] at hf
    refine Gl.on (B := T0.setTop (mkF m 402 #[.val (.int i0), .val (.int i1), .val (.int i2), .val (.int i3), .val (.int i4), .val (.int i5), .val (.int i6), .val (.int i7), .val (.int i8), .val (.int i9), .val (.int i10), .val (.int i11), .val (.ref (n0 + ob12)), .val (.int i13), .val (.int i14), .val (.int i15), .val (.int (0 : Int32))] [(.int (0 : Int32))])) (fun t k => ?_) ?_
    · show Steps p.tables e below (T0.setTop (mkF m 378 #[.val (.int i0), .val (.int i1), .val (.int i2), .val (.int i3), .val (.int i4), .val (.int i5), .val (.int i6), .val (.int i7), .val (.int i8), .val (.int i9), .val (.int i10), .val (.int i11), .val (.ref (n0 + ob12)), .val (.int i13), .val (.int i14), .val (.int i15), .val (.int t0)] [(.int t0)])) _
      refine XS.ifYes X0.here hx rfl (pc0 := 378) (pc' := 397) rfl (hb hby at_378) rfl ((if0 _ _).trans (teq hc64).1) (by decide) (by decide) ?_
      show Steps p.tables e below (T0.setTop (mkF m 397 #[.val (.int i0), .val (.int i1), .val (.int i2), .val (.int i3), .val (.int i4), .val (.int i5), .val (.int i6), .val (.int i7), .val (.int i8), .val (.int i9), .val (.int i10), .val (.int i11), .val (.ref (n0 + ob12)), .val (.int i13), .val (.int i14), .val (.int i15), .val (.int t0)] [])) _
      refine XS.iconst X0.here hx rfl (hb hby at_397) ?_
      show Steps p.tables e below (T0.setTop (mkF m 398 #[.val (.int i0), .val (.int i1), .val (.int i2), .val (.int i3), .val (.int i4), .val (.int i5), .val (.int i6), .val (.int i7), .val (.int i8), .val (.int i9), .val (.int i10), .val (.int i11), .val (.ref (n0 + ob12)), .val (.int i13), .val (.int i14), .val (.int i15), .val (.int t0)] [(.int (0 : Int32))])) _
      refine XS.istore X0.here hx rfl (hb hby at_398) rfl (l' := #[.val (.int i0), .val (.int i1), .val (.int i2), .val (.int i3), .val (.int i4), .val (.int i5), .val (.int i6), .val (.int i7), .val (.int i8), .val (.int i9), .val (.int i10), .val (.int i11), .val (.ref (n0 + ob12)), .val (.int i13), .val (.int i14), .val (.int i15), .val (.int (0 : Int32))]) rfl ?_
      show Steps p.tables e below (T0.setTop (mkF m 400 #[.val (.int i0), .val (.int i1), .val (.int i2), .val (.int i3), .val (.int i4), .val (.int i5), .val (.int i6), .val (.int i7), .val (.int i8), .val (.int i9), .val (.int i10), .val (.int i11), .val (.ref (n0 + ob12)), .val (.int i13), .val (.int i14), .val (.int i15), .val (.int (0 : Int32))] [])) _
      refine XS.iload X0.here hx rfl (hb hby at_400) rfl ?_
      exact k
    obtain ⟨rfl, rfl⟩ := own_inj hf
    exact Gl.outN X0 hx hlk (t := .boolean) hret (by simp) (hb hby at_402) ⟨rfl, N0, by rw [e0]; exact O0⟩ (by show _ ≤ 40; omega) (by show _ ≤ 384; omega)
  · rw [if_neg hc64] at hf
    obtain ⟨u66, hk65, hf⟩ := own_bind hf
    obtain ⟨⟨x67, D65⟩, hq65, hf⟩ := own_bind hf
    obtain ⟨_, rfl, hf⟩ := own_letE hf
    obtain ⟨_, rfl, hf⟩ := own_letE hf
    obtain ⟨T65, h65, L65, X65, e65, O65, N65, st65⟩ := callVW X0 hx hZ (y := (⟨"com/example/planar_drawing_kit/planardrawingkit/inspect/SweepLine", "below", "(I)I"⟩ : MethodName)) hown (hw _ (List.mem_of_getElem? (i := 103) rfl)) (hw _ (List.mem_of_getElem? (i := 104) rfl)) (hw _ (List.mem_of_getElem? (i := 106) rfl)) (hw _ (List.mem_of_getElem? (i := 105) rfl)) (hw _ (List.mem_of_getElem? (i := 3) rfl)) (hw _ (List.mem_of_getElem? (i := 107) rfl)) (by decide) e0 O0 N0 hk65 rfl (as' := [(.int i13)]) (ct17 hw hq65) (W := 0) (kc := 0) (ks := 0) rfl rfl (by decide) (by decide) (g := (mkF m 385 #[.val (.int i0), .val (.int i1), .val (.int i2), .val (.int i3), .val (.int i4), .val (.int i5), .val (.int i6), .val (.int i7), .val (.int i8), .val (.int i9), .val (.int i10), .val (.int i11), .val (.ref (n0 + ob12)), .val (.int i13), .val (.int i14), .val (.int i15), .val (.int t0)] [(.int i13), (.ref (n0 + ob12))])) rfl (by rw [hml]; rfl) (rest := []) (lenOf pd_5 rfl) rfl (by show 2 * 0 + _ ≤ _; exact Nat.le_of_eq rfl) (hb hby at_385) (by show _ + 0 ≤ 40; omega) (by show _ + 0 ≤ 384; omega)
    refine Gl.on (B := T65.setTop (mkF m 390 #[.val (.int i0), .val (.int i1), .val (.int i2), .val (.int i3), .val (.int i4), .val (.int i5), .val (.int i6), .val (.int i7), .val (.int i8), .val (.int i9), .val (.int i10), .val (.int i11), .val (.ref (n0 + ob12)), .val (.int i13), .val (.int i14), .val (.int i15), .val (.int t0)] [(.int i11), (.int x67)])) (fun t k => ?_) ?_
    · show Steps p.tables e below (T0.setTop (mkF m 378 #[.val (.int i0), .val (.int i1), .val (.int i2), .val (.int i3), .val (.int i4), .val (.int i5), .val (.int i6), .val (.int i7), .val (.int i8), .val (.int i9), .val (.int i10), .val (.int i11), .val (.ref (n0 + ob12)), .val (.int i13), .val (.int i14), .val (.int i15), .val (.int t0)] [(.int t0)])) _
      refine XS.ifNo X0.here hx rfl (hb hby at_378) rfl ((if0 _ _).trans (feq hc64).1) ?_
      show Steps p.tables e below (T0.setTop (mkF m 381 #[.val (.int i0), .val (.int i1), .val (.int i2), .val (.int i3), .val (.int i4), .val (.int i5), .val (.int i6), .val (.int i7), .val (.int i8), .val (.int i9), .val (.int i10), .val (.int i11), .val (.ref (n0 + ob12)), .val (.int i13), .val (.int i14), .val (.int i15), .val (.int t0)] [])) _
      refine XS.aload X0.here hx rfl (hb hby at_381) rfl rfl ?_
      show Steps p.tables e below (T0.setTop (mkF m 383 #[.val (.int i0), .val (.int i1), .val (.int i2), .val (.int i3), .val (.int i4), .val (.int i5), .val (.int i6), .val (.int i7), .val (.int i8), .val (.int i9), .val (.int i10), .val (.int i11), .val (.ref (n0 + ob12)), .val (.int i13), .val (.int i14), .val (.int i15), .val (.int t0)] [(.ref (n0 + ob12))])) _
      refine XS.iload X0.here hx rfl (hb hby at_383) rfl ?_
      show Steps p.tables e below (T0.setTop (mkF m 385 #[.val (.int i0), .val (.int i1), .val (.int i2), .val (.int i3), .val (.int i4), .val (.int i5), .val (.int i6), .val (.int i7), .val (.int i8), .val (.int i9), .val (.int i10), .val (.int i11), .val (.ref (n0 + ob12)), .val (.int i13), .val (.int i14), .val (.int i15), .val (.int t0)] [(.int i13), (.ref (n0 + ob12))])) _
      refine st65 _ ?_
      show Steps p.tables e below (T65.setTop (mkF m 388 #[.val (.int i0), .val (.int i1), .val (.int i2), .val (.int i3), .val (.int i4), .val (.int i5), .val (.int i6), .val (.int i7), .val (.int i8), .val (.int i9), .val (.int i10), .val (.int i11), .val (.ref (n0 + ob12)), .val (.int i13), .val (.int i14), .val (.int i15), .val (.int t0)] [(.int x67)])) _
      refine XS.iload X65.here hx rfl (hb hby at_388) rfl ?_
      exact k
    by_cases hc68 : x67 = i11
    · rw [if_pos hc68] at hf
      refine Gl.on (B := T65.setTop (mkF m 402 #[.val (.int i0), .val (.int i1), .val (.int i2), .val (.int i3), .val (.int i4), .val (.int i5), .val (.int i6), .val (.int i7), .val (.int i8), .val (.int i9), .val (.int i10), .val (.int i11), .val (.ref (n0 + ob12)), .val (.int i13), .val (.int i14), .val (.int i15), .val (.int (1 : Int32))] [(.int (1 : Int32))])) (fun t k => ?_) ?_
      · show Steps p.tables e below (T65.setTop (mkF m 390 #[.val (.int i0), .val (.int i1), .val (.int i2), .val (.int i3), .val (.int i4), .val (.int i5), .val (.int i6), .val (.int i7), .val (.int i8), .val (.int i9), .val (.int i10), .val (.int i11), .val (.ref (n0 + ob12)), .val (.int i13), .val (.int i14), .val (.int i15), .val (.int t0)] [(.int i11), (.int x67)])) _
        refine XS.icmpNo X65.here hx rfl (hb hby at_390) rfl (teq hc68).2 ?_
        show Steps p.tables e below (T65.setTop (mkF m 393 #[.val (.int i0), .val (.int i1), .val (.int i2), .val (.int i3), .val (.int i4), .val (.int i5), .val (.int i6), .val (.int i7), .val (.int i8), .val (.int i9), .val (.int i10), .val (.int i11), .val (.ref (n0 + ob12)), .val (.int i13), .val (.int i14), .val (.int i15), .val (.int t0)] [])) _
        refine XS.iconst X65.here hx rfl (hb hby at_393) ?_
        show Steps p.tables e below (T65.setTop (mkF m 394 #[.val (.int i0), .val (.int i1), .val (.int i2), .val (.int i3), .val (.int i4), .val (.int i5), .val (.int i6), .val (.int i7), .val (.int i8), .val (.int i9), .val (.int i10), .val (.int i11), .val (.ref (n0 + ob12)), .val (.int i13), .val (.int i14), .val (.int i15), .val (.int t0)] [(.int (1 : Int32))])) _
        refine XS.goto X65.here hx rfl (pc0 := 394) (pc' := 398) rfl (hb hby at_394) (by decide) (by decide) ?_
        show Steps p.tables e below (T65.setTop (mkF m 398 #[.val (.int i0), .val (.int i1), .val (.int i2), .val (.int i3), .val (.int i4), .val (.int i5), .val (.int i6), .val (.int i7), .val (.int i8), .val (.int i9), .val (.int i10), .val (.int i11), .val (.ref (n0 + ob12)), .val (.int i13), .val (.int i14), .val (.int i15), .val (.int t0)] [(.int (1 : Int32))])) _
        refine XS.istore X65.here hx rfl (hb hby at_398) rfl (l' := #[.val (.int i0), .val (.int i1), .val (.int i2), .val (.int i3), .val (.int i4), .val (.int i5), .val (.int i6), .val (.int i7), .val (.int i8), .val (.int i9), .val (.int i10), .val (.int i11), .val (.ref (n0 + ob12)), .val (.int i13), .val (.int i14), .val (.int i15), .val (.int (1 : Int32))]) rfl ?_
        show Steps p.tables e below (T65.setTop (mkF m 400 #[.val (.int i0), .val (.int i1), .val (.int i2), .val (.int i3), .val (.int i4), .val (.int i5), .val (.int i6), .val (.int i7), .val (.int i8), .val (.int i9), .val (.int i10), .val (.int i11), .val (.ref (n0 + ob12)), .val (.int i13), .val (.int i14), .val (.int i15), .val (.int (1 : Int32))] [])) _
        refine XS.iload X65.here hx rfl (hb hby at_400) rfl ?_
        exact k
      obtain ⟨rfl, rfl⟩ := own_inj hf
      exact Gl.outN X65 hx hlk (t := .boolean) hret (by simp) (hb hby at_402) ⟨rfl, N65, by rw [e65]; exact O65⟩ (by show _ ≤ 40; omega) (by show _ ≤ 384; omega)
    · rw [if_neg hc68] at hf
      refine Gl.on (B := T65.setTop (mkF m 402 #[.val (.int i0), .val (.int i1), .val (.int i2), .val (.int i3), .val (.int i4), .val (.int i5), .val (.int i6), .val (.int i7), .val (.int i8), .val (.int i9), .val (.int i10), .val (.int i11), .val (.ref (n0 + ob12)), .val (.int i13), .val (.int i14), .val (.int i15), .val (.int (0 : Int32))] [(.int (0 : Int32))])) (fun t k => ?_) ?_
      · show Steps p.tables e below (T65.setTop (mkF m 390 #[.val (.int i0), .val (.int i1), .val (.int i2), .val (.int i3), .val (.int i4), .val (.int i5), .val (.int i6), .val (.int i7), .val (.int i8), .val (.int i9), .val (.int i10), .val (.int i11), .val (.ref (n0 + ob12)), .val (.int i13), .val (.int i14), .val (.int i15), .val (.int t0)] [(.int i11), (.int x67)])) _
        refine XS.icmpYes X65.here hx rfl (pc0 := 390) (pc' := 397) rfl (hb hby at_390) rfl (feq hc68).2 (by decide) (by decide) ?_
        show Steps p.tables e below (T65.setTop (mkF m 397 #[.val (.int i0), .val (.int i1), .val (.int i2), .val (.int i3), .val (.int i4), .val (.int i5), .val (.int i6), .val (.int i7), .val (.int i8), .val (.int i9), .val (.int i10), .val (.int i11), .val (.ref (n0 + ob12)), .val (.int i13), .val (.int i14), .val (.int i15), .val (.int t0)] [])) _
        refine XS.iconst X65.here hx rfl (hb hby at_397) ?_
        show Steps p.tables e below (T65.setTop (mkF m 398 #[.val (.int i0), .val (.int i1), .val (.int i2), .val (.int i3), .val (.int i4), .val (.int i5), .val (.int i6), .val (.int i7), .val (.int i8), .val (.int i9), .val (.int i10), .val (.int i11), .val (.ref (n0 + ob12)), .val (.int i13), .val (.int i14), .val (.int i15), .val (.int t0)] [(.int (0 : Int32))])) _
        refine XS.istore X65.here hx rfl (hb hby at_398) rfl (l' := #[.val (.int i0), .val (.int i1), .val (.int i2), .val (.int i3), .val (.int i4), .val (.int i5), .val (.int i6), .val (.int i7), .val (.int i8), .val (.int i9), .val (.int i10), .val (.int i11), .val (.ref (n0 + ob12)), .val (.int i13), .val (.int i14), .val (.int i15), .val (.int (0 : Int32))]) rfl ?_
        show Steps p.tables e below (T65.setTop (mkF m 400 #[.val (.int i0), .val (.int i1), .val (.int i2), .val (.int i3), .val (.int i4), .val (.int i5), .val (.int i6), .val (.int i7), .val (.int i8), .val (.int i9), .val (.int i10), .val (.int i11), .val (.ref (n0 + ob12)), .val (.int i13), .val (.int i14), .val (.int i15), .val (.int (0 : Int32))] [])) _
        refine XS.iload X65.here hx rfl (hb hby at_400) rfl ?_
        exact k
      obtain ⟨rfl, rfl⟩ := own_inj hf
      exact Gl.outN X65 hx hlk (t := .boolean) hret (by simp) (hb hby at_402) ⟨rfl, N65, by rw [e65]; exact O65⟩ (by show _ ≤ 40; omega) (by show _ ≤ 384; omega)
def b0_373 (D : Hp) (i11 : Int32) (ob12 : Nat) (i13 : Int32) : Option (Int32 × Hp) :=
  b0_374 D i11 ob12 i13 (0 : Int32)
set_option maxRecDepth 65536 in
set_option maxHeartbeats 40000000 in
theorem bt0_373 {p : Program} {l : Launch} {e : Env} {s : State} {m : MethodId} {args : Array Value} {below : List Frame} {meth : Method} {c : Code} {Z : State} {a0 : Array Value} {n0 : Nat} {D' : Hp} {r : Int32} {T0 : State} {locs : List Loc} {cells slots : Nat} {h0 : Heap} {D : Hp} {i0 : Int32} {i1 : Int32} {i2 : Int32} {i3 : Int32} {i4 : Int32} {i5 : Int32} {i6 : Int32} {i7 : Int32} {i8 : Int32} {i9 : Int32} {i10 : Int32} {i11 : Int32} {ob12 : Nat} {i13 : Int32} {i14 : Int32} {i15 : Int32} {i16 : Int32} (hw : ∀ d ∈ tables_1, d.before a0 Z = true) (hC : Cx p s m meth c Z code maxLocals ret "com/example/planar_drawing_kit/planardrawingkit/inspect/SweepLineSwapWithAbovePinLaw" "law") (X0 : Stand p l e room_1 s m args below meth c T0 locs cells slots) (e0 : T0.heap = h0) (O0 : Ow Kt1 Z h0 n0 D) (N0 : Fr n0 locs) (hcc : cells ≤ 30) (hss : slots ≤ 354) (hf : b0_373 D i11 ob12 i13 = some (r, D')) : Gl p e below s 40 384 (Qw Kt1 Z n0 (some (.int r)) D') (T0.setTop (mkF m 373 #[.val (.int i0), .val (.int i1), .val (.int i2), .val (.int i3), .val (.int i4), .val (.int i5), .val (.int i6), .val (.int i7), .val (.int i8), .val (.int i9), .val (.int i10), .val (.int i11), .val (.ref (n0 + ob12)), .val (.int i13), .val (.int i14), .val (.int i15), .val (.int i16)] [])) := by
  obtain ⟨hx, hZ, hby, hml, hown, hnm, hret, hlk⟩ := id hC
  have hml : c.maxLocals = 17 := hml
  rw [b0_373] at hf
  refine Gl.on (B := T0.setTop (mkF m 374 #[.val (.int i0), .val (.int i1), .val (.int i2), .val (.int i3), .val (.int i4), .val (.int i5), .val (.int i6), .val (.int i7), .val (.int i8), .val (.int i9), .val (.int i10), .val (.int i11), .val (.ref (n0 + ob12)), .val (.int i13), .val (.int i14), .val (.int i15), .val (.int i16)] [(.int (0 : Int32))])) (fun t k => ?_) ?_
  · show Steps p.tables e below (T0.setTop (mkF m 373 #[.val (.int i0), .val (.int i1), .val (.int i2), .val (.int i3), .val (.int i4), .val (.int i5), .val (.int i6), .val (.int i7), .val (.int i8), .val (.int i9), .val (.int i10), .val (.int i11), .val (.ref (n0 + ob12)), .val (.int i13), .val (.int i14), .val (.int i15), .val (.int i16)] [])) _
    refine XS.iconst X0.here hx rfl (hb hby at_373) ?_
    exact k
  exact bt0_374 hw hC X0 e0 O0 N0 (by omega) (by omega) hf
def b0_350 (D : Hp) (i11 : Int32) (ob12 : Nat) (i13 : Int32) (i14 : Int32) (t0 : Int32) : Option (Int32 × Hp) :=
  if t0 = (0 : Int32) then (b0_373 D i11 ob12 i13) else ((ck D ob12 1).bind fun u61 => (f17 D ob12 i14).bind fun q60 => own_let q60.1 fun x62 => own_let q60.2 fun D60 =>
  if x62 = i13 then (b0_374 D60 i11 ob12 i13 (1 : Int32)) else (b0_373 D60 i11 ob12 i13))
set_option maxRecDepth 65536 in
set_option maxHeartbeats 40000000 in
theorem bt0_350 {p : Program} {l : Launch} {e : Env} {s : State} {m : MethodId} {args : Array Value} {below : List Frame} {meth : Method} {c : Code} {Z : State} {a0 : Array Value} {n0 : Nat} {D' : Hp} {r : Int32} {T0 : State} {locs : List Loc} {cells slots : Nat} {h0 : Heap} {D : Hp} {i0 : Int32} {i1 : Int32} {i2 : Int32} {i3 : Int32} {i4 : Int32} {i5 : Int32} {i6 : Int32} {i7 : Int32} {i8 : Int32} {i9 : Int32} {i10 : Int32} {i11 : Int32} {ob12 : Nat} {i13 : Int32} {i14 : Int32} {i15 : Int32} {i16 : Int32} {t0 : Int32} (hw : ∀ d ∈ tables_1, d.before a0 Z = true) (hC : Cx p s m meth c Z code maxLocals ret "com/example/planar_drawing_kit/planardrawingkit/inspect/SweepLineSwapWithAbovePinLaw" "law") (X0 : Stand p l e room_1 s m args below meth c T0 locs cells slots) (e0 : T0.heap = h0) (O0 : Ow Kt1 Z h0 n0 D) (N0 : Fr n0 locs) (hcc : cells ≤ 30) (hss : slots ≤ 354) (hf : b0_350 D i11 ob12 i13 i14 t0 = some (r, D')) : Gl p e below s 40 384 (Qw Kt1 Z n0 (some (.int r)) D') (T0.setTop (mkF m 350 #[.val (.int i0), .val (.int i1), .val (.int i2), .val (.int i3), .val (.int i4), .val (.int i5), .val (.int i6), .val (.int i7), .val (.int i8), .val (.int i9), .val (.int i10), .val (.int i11), .val (.ref (n0 + ob12)), .val (.int i13), .val (.int i14), .val (.int i15), .val (.int i16)] [(.int t0)])) := by
  obtain ⟨hx, hZ, hby, hml, hown, hnm, hret, hlk⟩ := id hC
  have hml : c.maxLocals = 17 := hml
  rw [b0_350] at hf
  refine Gl.on (B := T0.setTop (mkF m 354 #[.val (.int i0), .val (.int i1), .val (.int i2), .val (.int i3), .val (.int i4), .val (.int i5), .val (.int i6), .val (.int i7), .val (.int i8), .val (.int i9), .val (.int i10), .val (.int i11), .val (.ref (n0 + ob12)), .val (.int i13), .val (.int i14), .val (.int i15), .val (.int t0)] [(.int t0)])) (fun t k => ?_) ?_
  · show Steps p.tables e below (T0.setTop (mkF m 350 #[.val (.int i0), .val (.int i1), .val (.int i2), .val (.int i3), .val (.int i4), .val (.int i5), .val (.int i6), .val (.int i7), .val (.int i8), .val (.int i9), .val (.int i10), .val (.int i11), .val (.ref (n0 + ob12)), .val (.int i13), .val (.int i14), .val (.int i15), .val (.int i16)] [(.int t0)])) _
    refine XS.istore X0.here hx rfl (hb hby at_350) rfl (l' := #[.val (.int i0), .val (.int i1), .val (.int i2), .val (.int i3), .val (.int i4), .val (.int i5), .val (.int i6), .val (.int i7), .val (.int i8), .val (.int i9), .val (.int i10), .val (.int i11), .val (.ref (n0 + ob12)), .val (.int i13), .val (.int i14), .val (.int i15), .val (.int t0)]) rfl ?_
    show Steps p.tables e below (T0.setTop (mkF m 352 #[.val (.int i0), .val (.int i1), .val (.int i2), .val (.int i3), .val (.int i4), .val (.int i5), .val (.int i6), .val (.int i7), .val (.int i8), .val (.int i9), .val (.int i10), .val (.int i11), .val (.ref (n0 + ob12)), .val (.int i13), .val (.int i14), .val (.int i15), .val (.int t0)] [])) _
    refine XS.iload X0.here hx rfl (hb hby at_352) rfl ?_
    exact k
  by_cases hc59 : t0 = (0 : Int32)
  · rw [if_pos hc59] at hf
    refine Gl.on (B := T0.setTop (mkF m 373 #[.val (.int i0), .val (.int i1), .val (.int i2), .val (.int i3), .val (.int i4), .val (.int i5), .val (.int i6), .val (.int i7), .val (.int i8), .val (.int i9), .val (.int i10), .val (.int i11), .val (.ref (n0 + ob12)), .val (.int i13), .val (.int i14), .val (.int i15), .val (.int t0)] [])) (fun t k => ?_) ?_
    · show Steps p.tables e below (T0.setTop (mkF m 354 #[.val (.int i0), .val (.int i1), .val (.int i2), .val (.int i3), .val (.int i4), .val (.int i5), .val (.int i6), .val (.int i7), .val (.int i8), .val (.int i9), .val (.int i10), .val (.int i11), .val (.ref (n0 + ob12)), .val (.int i13), .val (.int i14), .val (.int i15), .val (.int t0)] [(.int t0)])) _
      refine XS.ifYes X0.here hx rfl (pc0 := 354) (pc' := 373) rfl (hb hby at_354) rfl ((if0 _ _).trans (teq hc59).1) (by decide) (by decide) ?_
      exact k
    exact bt0_373 hw hC X0 e0 O0 N0 (by omega) (by omega) hf
  · rw [if_neg hc59] at hf
    obtain ⟨u61, hk60, hf⟩ := own_bind hf
    obtain ⟨⟨x62, D60⟩, hq60, hf⟩ := own_bind hf
    obtain ⟨_, rfl, hf⟩ := own_letE hf
    obtain ⟨_, rfl, hf⟩ := own_letE hf
    obtain ⟨T60, h60, L60, X60, e60, O60, N60, st60⟩ := callVW X0 hx hZ (y := (⟨"com/example/planar_drawing_kit/planardrawingkit/inspect/SweepLine", "below", "(I)I"⟩ : MethodName)) hown (hw _ (List.mem_of_getElem? (i := 103) rfl)) (hw _ (List.mem_of_getElem? (i := 104) rfl)) (hw _ (List.mem_of_getElem? (i := 106) rfl)) (hw _ (List.mem_of_getElem? (i := 105) rfl)) (hw _ (List.mem_of_getElem? (i := 3) rfl)) (hw _ (List.mem_of_getElem? (i := 107) rfl)) (by decide) e0 O0 N0 hk60 rfl (as' := [(.int i14)]) (ct17 hw hq60) (W := 0) (kc := 0) (ks := 0) rfl rfl (by decide) (by decide) (g := (mkF m 361 #[.val (.int i0), .val (.int i1), .val (.int i2), .val (.int i3), .val (.int i4), .val (.int i5), .val (.int i6), .val (.int i7), .val (.int i8), .val (.int i9), .val (.int i10), .val (.int i11), .val (.ref (n0 + ob12)), .val (.int i13), .val (.int i14), .val (.int i15), .val (.int t0)] [(.int i14), (.ref (n0 + ob12))])) rfl (by rw [hml]; rfl) (rest := []) (lenOf pd_5 rfl) rfl (by show 2 * 0 + _ ≤ _; exact Nat.le_of_eq rfl) (hb hby at_361) (by show _ + 0 ≤ 40; omega) (by show _ + 0 ≤ 384; omega)
    refine Gl.on (B := T60.setTop (mkF m 366 #[.val (.int i0), .val (.int i1), .val (.int i2), .val (.int i3), .val (.int i4), .val (.int i5), .val (.int i6), .val (.int i7), .val (.int i8), .val (.int i9), .val (.int i10), .val (.int i11), .val (.ref (n0 + ob12)), .val (.int i13), .val (.int i14), .val (.int i15), .val (.int t0)] [(.int i13), (.int x62)])) (fun t k => ?_) ?_
    · show Steps p.tables e below (T0.setTop (mkF m 354 #[.val (.int i0), .val (.int i1), .val (.int i2), .val (.int i3), .val (.int i4), .val (.int i5), .val (.int i6), .val (.int i7), .val (.int i8), .val (.int i9), .val (.int i10), .val (.int i11), .val (.ref (n0 + ob12)), .val (.int i13), .val (.int i14), .val (.int i15), .val (.int t0)] [(.int t0)])) _
      refine XS.ifNo X0.here hx rfl (hb hby at_354) rfl ((if0 _ _).trans (feq hc59).1) ?_
      show Steps p.tables e below (T0.setTop (mkF m 357 #[.val (.int i0), .val (.int i1), .val (.int i2), .val (.int i3), .val (.int i4), .val (.int i5), .val (.int i6), .val (.int i7), .val (.int i8), .val (.int i9), .val (.int i10), .val (.int i11), .val (.ref (n0 + ob12)), .val (.int i13), .val (.int i14), .val (.int i15), .val (.int t0)] [])) _
      refine XS.aload X0.here hx rfl (hb hby at_357) rfl rfl ?_
      show Steps p.tables e below (T0.setTop (mkF m 359 #[.val (.int i0), .val (.int i1), .val (.int i2), .val (.int i3), .val (.int i4), .val (.int i5), .val (.int i6), .val (.int i7), .val (.int i8), .val (.int i9), .val (.int i10), .val (.int i11), .val (.ref (n0 + ob12)), .val (.int i13), .val (.int i14), .val (.int i15), .val (.int t0)] [(.ref (n0 + ob12))])) _
      refine XS.iload X0.here hx rfl (hb hby at_359) rfl ?_
      show Steps p.tables e below (T0.setTop (mkF m 361 #[.val (.int i0), .val (.int i1), .val (.int i2), .val (.int i3), .val (.int i4), .val (.int i5), .val (.int i6), .val (.int i7), .val (.int i8), .val (.int i9), .val (.int i10), .val (.int i11), .val (.ref (n0 + ob12)), .val (.int i13), .val (.int i14), .val (.int i15), .val (.int t0)] [(.int i14), (.ref (n0 + ob12))])) _
      refine st60 _ ?_
      show Steps p.tables e below (T60.setTop (mkF m 364 #[.val (.int i0), .val (.int i1), .val (.int i2), .val (.int i3), .val (.int i4), .val (.int i5), .val (.int i6), .val (.int i7), .val (.int i8), .val (.int i9), .val (.int i10), .val (.int i11), .val (.ref (n0 + ob12)), .val (.int i13), .val (.int i14), .val (.int i15), .val (.int t0)] [(.int x62)])) _
      refine XS.iload X60.here hx rfl (hb hby at_364) rfl ?_
      exact k
    by_cases hc63 : x62 = i13
    · rw [if_pos hc63] at hf
      refine Gl.on (B := T60.setTop (mkF m 374 #[.val (.int i0), .val (.int i1), .val (.int i2), .val (.int i3), .val (.int i4), .val (.int i5), .val (.int i6), .val (.int i7), .val (.int i8), .val (.int i9), .val (.int i10), .val (.int i11), .val (.ref (n0 + ob12)), .val (.int i13), .val (.int i14), .val (.int i15), .val (.int t0)] [(.int (1 : Int32))])) (fun t k => ?_) ?_
      · show Steps p.tables e below (T60.setTop (mkF m 366 #[.val (.int i0), .val (.int i1), .val (.int i2), .val (.int i3), .val (.int i4), .val (.int i5), .val (.int i6), .val (.int i7), .val (.int i8), .val (.int i9), .val (.int i10), .val (.int i11), .val (.ref (n0 + ob12)), .val (.int i13), .val (.int i14), .val (.int i15), .val (.int t0)] [(.int i13), (.int x62)])) _
        refine XS.icmpNo X60.here hx rfl (hb hby at_366) rfl (teq hc63).2 ?_
        show Steps p.tables e below (T60.setTop (mkF m 369 #[.val (.int i0), .val (.int i1), .val (.int i2), .val (.int i3), .val (.int i4), .val (.int i5), .val (.int i6), .val (.int i7), .val (.int i8), .val (.int i9), .val (.int i10), .val (.int i11), .val (.ref (n0 + ob12)), .val (.int i13), .val (.int i14), .val (.int i15), .val (.int t0)] [])) _
        refine XS.iconst X60.here hx rfl (hb hby at_369) ?_
        show Steps p.tables e below (T60.setTop (mkF m 370 #[.val (.int i0), .val (.int i1), .val (.int i2), .val (.int i3), .val (.int i4), .val (.int i5), .val (.int i6), .val (.int i7), .val (.int i8), .val (.int i9), .val (.int i10), .val (.int i11), .val (.ref (n0 + ob12)), .val (.int i13), .val (.int i14), .val (.int i15), .val (.int t0)] [(.int (1 : Int32))])) _
        refine XS.goto X60.here hx rfl (pc0 := 370) (pc' := 374) rfl (hb hby at_370) (by decide) (by decide) ?_
        exact k
      exact bt0_374 hw hC X60 e60 O60 N60 (by omega) (by omega) hf
    · rw [if_neg hc63] at hf
      refine Gl.on (B := T60.setTop (mkF m 373 #[.val (.int i0), .val (.int i1), .val (.int i2), .val (.int i3), .val (.int i4), .val (.int i5), .val (.int i6), .val (.int i7), .val (.int i8), .val (.int i9), .val (.int i10), .val (.int i11), .val (.ref (n0 + ob12)), .val (.int i13), .val (.int i14), .val (.int i15), .val (.int t0)] [])) (fun t k => ?_) ?_
      · show Steps p.tables e below (T60.setTop (mkF m 366 #[.val (.int i0), .val (.int i1), .val (.int i2), .val (.int i3), .val (.int i4), .val (.int i5), .val (.int i6), .val (.int i7), .val (.int i8), .val (.int i9), .val (.int i10), .val (.int i11), .val (.ref (n0 + ob12)), .val (.int i13), .val (.int i14), .val (.int i15), .val (.int t0)] [(.int i13), (.int x62)])) _
        refine XS.icmpYes X60.here hx rfl (pc0 := 366) (pc' := 373) rfl (hb hby at_366) rfl (feq hc63).2 (by decide) (by decide) ?_
        exact k
      exact bt0_373 hw hC X60 e60 O60 N60 (by omega) (by omega) hf
def b0_349 (D : Hp) (i11 : Int32) (ob12 : Nat) (i13 : Int32) (i14 : Int32) : Option (Int32 × Hp) :=
  b0_350 D i11 ob12 i13 i14 (0 : Int32)
set_option maxRecDepth 65536 in
set_option maxHeartbeats 40000000 in
theorem bt0_349 {p : Program} {l : Launch} {e : Env} {s : State} {m : MethodId} {args : Array Value} {below : List Frame} {meth : Method} {c : Code} {Z : State} {a0 : Array Value} {n0 : Nat} {D' : Hp} {r : Int32} {T0 : State} {locs : List Loc} {cells slots : Nat} {h0 : Heap} {D : Hp} {i0 : Int32} {i1 : Int32} {i2 : Int32} {i3 : Int32} {i4 : Int32} {i5 : Int32} {i6 : Int32} {i7 : Int32} {i8 : Int32} {i9 : Int32} {i10 : Int32} {i11 : Int32} {ob12 : Nat} {i13 : Int32} {i14 : Int32} {i15 : Int32} {i16 : Int32} (hw : ∀ d ∈ tables_1, d.before a0 Z = true) (hC : Cx p s m meth c Z code maxLocals ret "com/example/planar_drawing_kit/planardrawingkit/inspect/SweepLineSwapWithAbovePinLaw" "law") (X0 : Stand p l e room_1 s m args below meth c T0 locs cells slots) (e0 : T0.heap = h0) (O0 : Ow Kt1 Z h0 n0 D) (N0 : Fr n0 locs) (hcc : cells ≤ 30) (hss : slots ≤ 354) (hf : b0_349 D i11 ob12 i13 i14 = some (r, D')) : Gl p e below s 40 384 (Qw Kt1 Z n0 (some (.int r)) D') (T0.setTop (mkF m 349 #[.val (.int i0), .val (.int i1), .val (.int i2), .val (.int i3), .val (.int i4), .val (.int i5), .val (.int i6), .val (.int i7), .val (.int i8), .val (.int i9), .val (.int i10), .val (.int i11), .val (.ref (n0 + ob12)), .val (.int i13), .val (.int i14), .val (.int i15), .val (.int i16)] [])) := by
  obtain ⟨hx, hZ, hby, hml, hown, hnm, hret, hlk⟩ := id hC
  have hml : c.maxLocals = 17 := hml
  rw [b0_349] at hf
  refine Gl.on (B := T0.setTop (mkF m 350 #[.val (.int i0), .val (.int i1), .val (.int i2), .val (.int i3), .val (.int i4), .val (.int i5), .val (.int i6), .val (.int i7), .val (.int i8), .val (.int i9), .val (.int i10), .val (.int i11), .val (.ref (n0 + ob12)), .val (.int i13), .val (.int i14), .val (.int i15), .val (.int i16)] [(.int (0 : Int32))])) (fun t k => ?_) ?_
  · show Steps p.tables e below (T0.setTop (mkF m 349 #[.val (.int i0), .val (.int i1), .val (.int i2), .val (.int i3), .val (.int i4), .val (.int i5), .val (.int i6), .val (.int i7), .val (.int i8), .val (.int i9), .val (.int i10), .val (.int i11), .val (.ref (n0 + ob12)), .val (.int i13), .val (.int i14), .val (.int i15), .val (.int i16)] [])) _
    refine XS.iconst X0.here hx rfl (hb hby at_349) ?_
    exact k
  exact bt0_350 hw hC X0 e0 O0 N0 (by omega) (by omega) hf
def b0_326 (D : Hp) (i11 : Int32) (ob12 : Nat) (i13 : Int32) (i14 : Int32) (i15 : Int32) (t0 : Int32) : Option (Int32 × Hp) :=
  if t0 = (0 : Int32) then (b0_349 D i11 ob12 i13 i14) else ((ck D ob12 1).bind fun u56 => (f17 D ob12 i15).bind fun q55 => own_let q55.1 fun x57 => own_let q55.2 fun D55 =>
  if x57 = i14 then (b0_350 D55 i11 ob12 i13 i14 (1 : Int32)) else (b0_349 D55 i11 ob12 i13 i14))
set_option maxRecDepth 65536 in
set_option maxHeartbeats 40000000 in
theorem bt0_326 {p : Program} {l : Launch} {e : Env} {s : State} {m : MethodId} {args : Array Value} {below : List Frame} {meth : Method} {c : Code} {Z : State} {a0 : Array Value} {n0 : Nat} {D' : Hp} {r : Int32} {T0 : State} {locs : List Loc} {cells slots : Nat} {h0 : Heap} {D : Hp} {i0 : Int32} {i1 : Int32} {i2 : Int32} {i3 : Int32} {i4 : Int32} {i5 : Int32} {i6 : Int32} {i7 : Int32} {i8 : Int32} {i9 : Int32} {i10 : Int32} {i11 : Int32} {ob12 : Nat} {i13 : Int32} {i14 : Int32} {i15 : Int32} {i16 : Int32} {t0 : Int32} (hw : ∀ d ∈ tables_1, d.before a0 Z = true) (hC : Cx p s m meth c Z code maxLocals ret "com/example/planar_drawing_kit/planardrawingkit/inspect/SweepLineSwapWithAbovePinLaw" "law") (X0 : Stand p l e room_1 s m args below meth c T0 locs cells slots) (e0 : T0.heap = h0) (O0 : Ow Kt1 Z h0 n0 D) (N0 : Fr n0 locs) (hcc : cells ≤ 30) (hss : slots ≤ 354) (hf : b0_326 D i11 ob12 i13 i14 i15 t0 = some (r, D')) : Gl p e below s 40 384 (Qw Kt1 Z n0 (some (.int r)) D') (T0.setTop (mkF m 326 #[.val (.int i0), .val (.int i1), .val (.int i2), .val (.int i3), .val (.int i4), .val (.int i5), .val (.int i6), .val (.int i7), .val (.int i8), .val (.int i9), .val (.int i10), .val (.int i11), .val (.ref (n0 + ob12)), .val (.int i13), .val (.int i14), .val (.int i15), .val (.int i16)] [(.int t0)])) := by
  obtain ⟨hx, hZ, hby, hml, hown, hnm, hret, hlk⟩ := id hC
  have hml : c.maxLocals = 17 := hml
  rw [b0_326] at hf
  refine Gl.on (B := T0.setTop (mkF m 330 #[.val (.int i0), .val (.int i1), .val (.int i2), .val (.int i3), .val (.int i4), .val (.int i5), .val (.int i6), .val (.int i7), .val (.int i8), .val (.int i9), .val (.int i10), .val (.int i11), .val (.ref (n0 + ob12)), .val (.int i13), .val (.int i14), .val (.int i15), .val (.int t0)] [(.int t0)])) (fun t k => ?_) ?_
  · show Steps p.tables e below (T0.setTop (mkF m 326 #[.val (.int i0), .val (.int i1), .val (.int i2), .val (.int i3), .val (.int i4), .val (.int i5), .val (.int i6), .val (.int i7), .val (.int i8), .val (.int i9), .val (.int i10), .val (.int i11), .val (.ref (n0 + ob12)), .val (.int i13), .val (.int i14), .val (.int i15), .val (.int i16)] [(.int t0)])) _
    refine XS.istore X0.here hx rfl (hb hby at_326) rfl (l' := #[.val (.int i0), .val (.int i1), .val (.int i2), .val (.int i3), .val (.int i4), .val (.int i5), .val (.int i6), .val (.int i7), .val (.int i8), .val (.int i9), .val (.int i10), .val (.int i11), .val (.ref (n0 + ob12)), .val (.int i13), .val (.int i14), .val (.int i15), .val (.int t0)]) rfl ?_
    show Steps p.tables e below (T0.setTop (mkF m 328 #[.val (.int i0), .val (.int i1), .val (.int i2), .val (.int i3), .val (.int i4), .val (.int i5), .val (.int i6), .val (.int i7), .val (.int i8), .val (.int i9), .val (.int i10), .val (.int i11), .val (.ref (n0 + ob12)), .val (.int i13), .val (.int i14), .val (.int i15), .val (.int t0)] [])) _
    refine XS.iload X0.here hx rfl (hb hby at_328) rfl ?_
    exact k
  by_cases hc54 : t0 = (0 : Int32)
  · rw [if_pos hc54] at hf
    refine Gl.on (B := T0.setTop (mkF m 349 #[.val (.int i0), .val (.int i1), .val (.int i2), .val (.int i3), .val (.int i4), .val (.int i5), .val (.int i6), .val (.int i7), .val (.int i8), .val (.int i9), .val (.int i10), .val (.int i11), .val (.ref (n0 + ob12)), .val (.int i13), .val (.int i14), .val (.int i15), .val (.int t0)] [])) (fun t k => ?_) ?_
    · show Steps p.tables e below (T0.setTop (mkF m 330 #[.val (.int i0), .val (.int i1), .val (.int i2), .val (.int i3), .val (.int i4), .val (.int i5), .val (.int i6), .val (.int i7), .val (.int i8), .val (.int i9), .val (.int i10), .val (.int i11), .val (.ref (n0 + ob12)), .val (.int i13), .val (.int i14), .val (.int i15), .val (.int t0)] [(.int t0)])) _
      refine XS.ifYes X0.here hx rfl (pc0 := 330) (pc' := 349) rfl (hb hby at_330) rfl ((if0 _ _).trans (teq hc54).1) (by decide) (by decide) ?_
      exact k
    exact bt0_349 hw hC X0 e0 O0 N0 (by omega) (by omega) hf
  · rw [if_neg hc54] at hf
    obtain ⟨u56, hk55, hf⟩ := own_bind hf
    obtain ⟨⟨x57, D55⟩, hq55, hf⟩ := own_bind hf
    obtain ⟨_, rfl, hf⟩ := own_letE hf
    obtain ⟨_, rfl, hf⟩ := own_letE hf
    obtain ⟨T55, h55, L55, X55, e55, O55, N55, st55⟩ := callVW X0 hx hZ (y := (⟨"com/example/planar_drawing_kit/planardrawingkit/inspect/SweepLine", "below", "(I)I"⟩ : MethodName)) hown (hw _ (List.mem_of_getElem? (i := 103) rfl)) (hw _ (List.mem_of_getElem? (i := 104) rfl)) (hw _ (List.mem_of_getElem? (i := 106) rfl)) (hw _ (List.mem_of_getElem? (i := 105) rfl)) (hw _ (List.mem_of_getElem? (i := 3) rfl)) (hw _ (List.mem_of_getElem? (i := 107) rfl)) (by decide) e0 O0 N0 hk55 rfl (as' := [(.int i15)]) (ct17 hw hq55) (W := 0) (kc := 0) (ks := 0) rfl rfl (by decide) (by decide) (g := (mkF m 337 #[.val (.int i0), .val (.int i1), .val (.int i2), .val (.int i3), .val (.int i4), .val (.int i5), .val (.int i6), .val (.int i7), .val (.int i8), .val (.int i9), .val (.int i10), .val (.int i11), .val (.ref (n0 + ob12)), .val (.int i13), .val (.int i14), .val (.int i15), .val (.int t0)] [(.int i15), (.ref (n0 + ob12))])) rfl (by rw [hml]; rfl) (rest := []) (lenOf pd_5 rfl) rfl (by show 2 * 0 + _ ≤ _; exact Nat.le_of_eq rfl) (hb hby at_337) (by show _ + 0 ≤ 40; omega) (by show _ + 0 ≤ 384; omega)
    refine Gl.on (B := T55.setTop (mkF m 342 #[.val (.int i0), .val (.int i1), .val (.int i2), .val (.int i3), .val (.int i4), .val (.int i5), .val (.int i6), .val (.int i7), .val (.int i8), .val (.int i9), .val (.int i10), .val (.int i11), .val (.ref (n0 + ob12)), .val (.int i13), .val (.int i14), .val (.int i15), .val (.int t0)] [(.int i14), (.int x57)])) (fun t k => ?_) ?_
    · show Steps p.tables e below (T0.setTop (mkF m 330 #[.val (.int i0), .val (.int i1), .val (.int i2), .val (.int i3), .val (.int i4), .val (.int i5), .val (.int i6), .val (.int i7), .val (.int i8), .val (.int i9), .val (.int i10), .val (.int i11), .val (.ref (n0 + ob12)), .val (.int i13), .val (.int i14), .val (.int i15), .val (.int t0)] [(.int t0)])) _
      refine XS.ifNo X0.here hx rfl (hb hby at_330) rfl ((if0 _ _).trans (feq hc54).1) ?_
      show Steps p.tables e below (T0.setTop (mkF m 333 #[.val (.int i0), .val (.int i1), .val (.int i2), .val (.int i3), .val (.int i4), .val (.int i5), .val (.int i6), .val (.int i7), .val (.int i8), .val (.int i9), .val (.int i10), .val (.int i11), .val (.ref (n0 + ob12)), .val (.int i13), .val (.int i14), .val (.int i15), .val (.int t0)] [])) _
      refine XS.aload X0.here hx rfl (hb hby at_333) rfl rfl ?_
      show Steps p.tables e below (T0.setTop (mkF m 335 #[.val (.int i0), .val (.int i1), .val (.int i2), .val (.int i3), .val (.int i4), .val (.int i5), .val (.int i6), .val (.int i7), .val (.int i8), .val (.int i9), .val (.int i10), .val (.int i11), .val (.ref (n0 + ob12)), .val (.int i13), .val (.int i14), .val (.int i15), .val (.int t0)] [(.ref (n0 + ob12))])) _
      refine XS.iload X0.here hx rfl (hb hby at_335) rfl ?_
      show Steps p.tables e below (T0.setTop (mkF m 337 #[.val (.int i0), .val (.int i1), .val (.int i2), .val (.int i3), .val (.int i4), .val (.int i5), .val (.int i6), .val (.int i7), .val (.int i8), .val (.int i9), .val (.int i10), .val (.int i11), .val (.ref (n0 + ob12)), .val (.int i13), .val (.int i14), .val (.int i15), .val (.int t0)] [(.int i15), (.ref (n0 + ob12))])) _
      refine st55 _ ?_
      show Steps p.tables e below (T55.setTop (mkF m 340 #[.val (.int i0), .val (.int i1), .val (.int i2), .val (.int i3), .val (.int i4), .val (.int i5), .val (.int i6), .val (.int i7), .val (.int i8), .val (.int i9), .val (.int i10), .val (.int i11), .val (.ref (n0 + ob12)), .val (.int i13), .val (.int i14), .val (.int i15), .val (.int t0)] [(.int x57)])) _
      refine XS.iload X55.here hx rfl (hb hby at_340) rfl ?_
      exact k
    by_cases hc58 : x57 = i14
    · rw [if_pos hc58] at hf
      refine Gl.on (B := T55.setTop (mkF m 350 #[.val (.int i0), .val (.int i1), .val (.int i2), .val (.int i3), .val (.int i4), .val (.int i5), .val (.int i6), .val (.int i7), .val (.int i8), .val (.int i9), .val (.int i10), .val (.int i11), .val (.ref (n0 + ob12)), .val (.int i13), .val (.int i14), .val (.int i15), .val (.int t0)] [(.int (1 : Int32))])) (fun t k => ?_) ?_
      · show Steps p.tables e below (T55.setTop (mkF m 342 #[.val (.int i0), .val (.int i1), .val (.int i2), .val (.int i3), .val (.int i4), .val (.int i5), .val (.int i6), .val (.int i7), .val (.int i8), .val (.int i9), .val (.int i10), .val (.int i11), .val (.ref (n0 + ob12)), .val (.int i13), .val (.int i14), .val (.int i15), .val (.int t0)] [(.int i14), (.int x57)])) _
        refine XS.icmpNo X55.here hx rfl (hb hby at_342) rfl (teq hc58).2 ?_
        show Steps p.tables e below (T55.setTop (mkF m 345 #[.val (.int i0), .val (.int i1), .val (.int i2), .val (.int i3), .val (.int i4), .val (.int i5), .val (.int i6), .val (.int i7), .val (.int i8), .val (.int i9), .val (.int i10), .val (.int i11), .val (.ref (n0 + ob12)), .val (.int i13), .val (.int i14), .val (.int i15), .val (.int t0)] [])) _
        refine XS.iconst X55.here hx rfl (hb hby at_345) ?_
        show Steps p.tables e below (T55.setTop (mkF m 346 #[.val (.int i0), .val (.int i1), .val (.int i2), .val (.int i3), .val (.int i4), .val (.int i5), .val (.int i6), .val (.int i7), .val (.int i8), .val (.int i9), .val (.int i10), .val (.int i11), .val (.ref (n0 + ob12)), .val (.int i13), .val (.int i14), .val (.int i15), .val (.int t0)] [(.int (1 : Int32))])) _
        refine XS.goto X55.here hx rfl (pc0 := 346) (pc' := 350) rfl (hb hby at_346) (by decide) (by decide) ?_
        exact k
      exact bt0_350 hw hC X55 e55 O55 N55 (by omega) (by omega) hf
    · rw [if_neg hc58] at hf
      refine Gl.on (B := T55.setTop (mkF m 349 #[.val (.int i0), .val (.int i1), .val (.int i2), .val (.int i3), .val (.int i4), .val (.int i5), .val (.int i6), .val (.int i7), .val (.int i8), .val (.int i9), .val (.int i10), .val (.int i11), .val (.ref (n0 + ob12)), .val (.int i13), .val (.int i14), .val (.int i15), .val (.int t0)] [])) (fun t k => ?_) ?_
      · show Steps p.tables e below (T55.setTop (mkF m 342 #[.val (.int i0), .val (.int i1), .val (.int i2), .val (.int i3), .val (.int i4), .val (.int i5), .val (.int i6), .val (.int i7), .val (.int i8), .val (.int i9), .val (.int i10), .val (.int i11), .val (.ref (n0 + ob12)), .val (.int i13), .val (.int i14), .val (.int i15), .val (.int t0)] [(.int i14), (.int x57)])) _
        refine XS.icmpYes X55.here hx rfl (pc0 := 342) (pc' := 349) rfl (hb hby at_342) rfl (feq hc58).2 (by decide) (by decide) ?_
        exact k
      exact bt0_349 hw hC X55 e55 O55 N55 (by omega) (by omega) hf
def b0_325 (D : Hp) (i11 : Int32) (ob12 : Nat) (i13 : Int32) (i14 : Int32) (i15 : Int32) : Option (Int32 × Hp) :=
  b0_326 D i11 ob12 i13 i14 i15 (0 : Int32)
set_option maxRecDepth 65536 in
set_option maxHeartbeats 40000000 in
theorem bt0_325 {p : Program} {l : Launch} {e : Env} {s : State} {m : MethodId} {args : Array Value} {below : List Frame} {meth : Method} {c : Code} {Z : State} {a0 : Array Value} {n0 : Nat} {D' : Hp} {r : Int32} {T0 : State} {locs : List Loc} {cells slots : Nat} {h0 : Heap} {D : Hp} {i0 : Int32} {i1 : Int32} {i2 : Int32} {i3 : Int32} {i4 : Int32} {i5 : Int32} {i6 : Int32} {i7 : Int32} {i8 : Int32} {i9 : Int32} {i10 : Int32} {i11 : Int32} {ob12 : Nat} {i13 : Int32} {i14 : Int32} {i15 : Int32} {i16 : Int32} (hw : ∀ d ∈ tables_1, d.before a0 Z = true) (hC : Cx p s m meth c Z code maxLocals ret "com/example/planar_drawing_kit/planardrawingkit/inspect/SweepLineSwapWithAbovePinLaw" "law") (X0 : Stand p l e room_1 s m args below meth c T0 locs cells slots) (e0 : T0.heap = h0) (O0 : Ow Kt1 Z h0 n0 D) (N0 : Fr n0 locs) (hcc : cells ≤ 30) (hss : slots ≤ 354) (hf : b0_325 D i11 ob12 i13 i14 i15 = some (r, D')) : Gl p e below s 40 384 (Qw Kt1 Z n0 (some (.int r)) D') (T0.setTop (mkF m 325 #[.val (.int i0), .val (.int i1), .val (.int i2), .val (.int i3), .val (.int i4), .val (.int i5), .val (.int i6), .val (.int i7), .val (.int i8), .val (.int i9), .val (.int i10), .val (.int i11), .val (.ref (n0 + ob12)), .val (.int i13), .val (.int i14), .val (.int i15), .val (.int i16)] [])) := by
  obtain ⟨hx, hZ, hby, hml, hown, hnm, hret, hlk⟩ := id hC
  have hml : c.maxLocals = 17 := hml
  rw [b0_325] at hf
  refine Gl.on (B := T0.setTop (mkF m 326 #[.val (.int i0), .val (.int i1), .val (.int i2), .val (.int i3), .val (.int i4), .val (.int i5), .val (.int i6), .val (.int i7), .val (.int i8), .val (.int i9), .val (.int i10), .val (.int i11), .val (.ref (n0 + ob12)), .val (.int i13), .val (.int i14), .val (.int i15), .val (.int i16)] [(.int (0 : Int32))])) (fun t k => ?_) ?_
  · show Steps p.tables e below (T0.setTop (mkF m 325 #[.val (.int i0), .val (.int i1), .val (.int i2), .val (.int i3), .val (.int i4), .val (.int i5), .val (.int i6), .val (.int i7), .val (.int i8), .val (.int i9), .val (.int i10), .val (.int i11), .val (.ref (n0 + ob12)), .val (.int i13), .val (.int i14), .val (.int i15), .val (.int i16)] [])) _
    refine XS.iconst X0.here hx rfl (hb hby at_325) ?_
    exact k
  exact bt0_326 hw hC X0 e0 O0 N0 (by omega) (by omega) hf
def b0_302 (D : Hp) (i11 : Int32) (ob12 : Nat) (i13 : Int32) (i14 : Int32) (i15 : Int32) (t0 : Int32) : Option (Int32 × Hp) :=
  if t0 = (0 : Int32) then (b0_325 D i11 ob12 i13 i14 i15) else ((ck D ob12 1).bind fun u51 => (f16 D ob12 i15).bind fun q50 => own_let q50.1 fun x52 => own_let q50.2 fun D50 =>
  if x52 = i11 then (b0_326 D50 i11 ob12 i13 i14 i15 (1 : Int32)) else (b0_325 D50 i11 ob12 i13 i14 i15))
set_option maxRecDepth 65536 in
set_option maxHeartbeats 40000000 in
theorem bt0_302 {p : Program} {l : Launch} {e : Env} {s : State} {m : MethodId} {args : Array Value} {below : List Frame} {meth : Method} {c : Code} {Z : State} {a0 : Array Value} {n0 : Nat} {D' : Hp} {r : Int32} {T0 : State} {locs : List Loc} {cells slots : Nat} {h0 : Heap} {D : Hp} {i0 : Int32} {i1 : Int32} {i2 : Int32} {i3 : Int32} {i4 : Int32} {i5 : Int32} {i6 : Int32} {i7 : Int32} {i8 : Int32} {i9 : Int32} {i10 : Int32} {i11 : Int32} {ob12 : Nat} {i13 : Int32} {i14 : Int32} {i15 : Int32} {i16 : Int32} {t0 : Int32} (hw : ∀ d ∈ tables_1, d.before a0 Z = true) (hC : Cx p s m meth c Z code maxLocals ret "com/example/planar_drawing_kit/planardrawingkit/inspect/SweepLineSwapWithAbovePinLaw" "law") (X0 : Stand p l e room_1 s m args below meth c T0 locs cells slots) (e0 : T0.heap = h0) (O0 : Ow Kt1 Z h0 n0 D) (N0 : Fr n0 locs) (hcc : cells ≤ 30) (hss : slots ≤ 354) (hf : b0_302 D i11 ob12 i13 i14 i15 t0 = some (r, D')) : Gl p e below s 40 384 (Qw Kt1 Z n0 (some (.int r)) D') (T0.setTop (mkF m 302 #[.val (.int i0), .val (.int i1), .val (.int i2), .val (.int i3), .val (.int i4), .val (.int i5), .val (.int i6), .val (.int i7), .val (.int i8), .val (.int i9), .val (.int i10), .val (.int i11), .val (.ref (n0 + ob12)), .val (.int i13), .val (.int i14), .val (.int i15), .val (.int i16)] [(.int t0)])) := by
  obtain ⟨hx, hZ, hby, hml, hown, hnm, hret, hlk⟩ := id hC
  have hml : c.maxLocals = 17 := hml
  rw [b0_302] at hf
  refine Gl.on (B := T0.setTop (mkF m 306 #[.val (.int i0), .val (.int i1), .val (.int i2), .val (.int i3), .val (.int i4), .val (.int i5), .val (.int i6), .val (.int i7), .val (.int i8), .val (.int i9), .val (.int i10), .val (.int i11), .val (.ref (n0 + ob12)), .val (.int i13), .val (.int i14), .val (.int i15), .val (.int t0)] [(.int t0)])) (fun t k => ?_) ?_
  · show Steps p.tables e below (T0.setTop (mkF m 302 #[.val (.int i0), .val (.int i1), .val (.int i2), .val (.int i3), .val (.int i4), .val (.int i5), .val (.int i6), .val (.int i7), .val (.int i8), .val (.int i9), .val (.int i10), .val (.int i11), .val (.ref (n0 + ob12)), .val (.int i13), .val (.int i14), .val (.int i15), .val (.int i16)] [(.int t0)])) _
    refine XS.istore X0.here hx rfl (hb hby at_302) rfl (l' := #[.val (.int i0), .val (.int i1), .val (.int i2), .val (.int i3), .val (.int i4), .val (.int i5), .val (.int i6), .val (.int i7), .val (.int i8), .val (.int i9), .val (.int i10), .val (.int i11), .val (.ref (n0 + ob12)), .val (.int i13), .val (.int i14), .val (.int i15), .val (.int t0)]) rfl ?_
    show Steps p.tables e below (T0.setTop (mkF m 304 #[.val (.int i0), .val (.int i1), .val (.int i2), .val (.int i3), .val (.int i4), .val (.int i5), .val (.int i6), .val (.int i7), .val (.int i8), .val (.int i9), .val (.int i10), .val (.int i11), .val (.ref (n0 + ob12)), .val (.int i13), .val (.int i14), .val (.int i15), .val (.int t0)] [])) _
    refine XS.iload X0.here hx rfl (hb hby at_304) rfl ?_
    exact k
  by_cases hc49 : t0 = (0 : Int32)
  · rw [if_pos hc49] at hf
    refine Gl.on (B := T0.setTop (mkF m 325 #[.val (.int i0), .val (.int i1), .val (.int i2), .val (.int i3), .val (.int i4), .val (.int i5), .val (.int i6), .val (.int i7), .val (.int i8), .val (.int i9), .val (.int i10), .val (.int i11), .val (.ref (n0 + ob12)), .val (.int i13), .val (.int i14), .val (.int i15), .val (.int t0)] [])) (fun t k => ?_) ?_
    · show Steps p.tables e below (T0.setTop (mkF m 306 #[.val (.int i0), .val (.int i1), .val (.int i2), .val (.int i3), .val (.int i4), .val (.int i5), .val (.int i6), .val (.int i7), .val (.int i8), .val (.int i9), .val (.int i10), .val (.int i11), .val (.ref (n0 + ob12)), .val (.int i13), .val (.int i14), .val (.int i15), .val (.int t0)] [(.int t0)])) _
      refine XS.ifYes X0.here hx rfl (pc0 := 306) (pc' := 325) rfl (hb hby at_306) rfl ((if0 _ _).trans (teq hc49).1) (by decide) (by decide) ?_
      exact k
    exact bt0_325 hw hC X0 e0 O0 N0 (by omega) (by omega) hf
  · rw [if_neg hc49] at hf
    obtain ⟨u51, hk50, hf⟩ := own_bind hf
    obtain ⟨⟨x52, D50⟩, hq50, hf⟩ := own_bind hf
    obtain ⟨_, rfl, hf⟩ := own_letE hf
    obtain ⟨_, rfl, hf⟩ := own_letE hf
    obtain ⟨T50, h50, L50, X50, e50, O50, N50, st50⟩ := callVW X0 hx hZ (y := (⟨"com/example/planar_drawing_kit/planardrawingkit/inspect/SweepLine", "above", "(I)I"⟩ : MethodName)) hown (hw _ (List.mem_of_getElem? (i := 98) rfl)) (hw _ (List.mem_of_getElem? (i := 99) rfl)) (hw _ (List.mem_of_getElem? (i := 101) rfl)) (hw _ (List.mem_of_getElem? (i := 100) rfl)) (hw _ (List.mem_of_getElem? (i := 3) rfl)) (hw _ (List.mem_of_getElem? (i := 102) rfl)) (by decide) e0 O0 N0 hk50 rfl (as' := [(.int i15)]) (ct16 hw hq50) (W := 0) (kc := 0) (ks := 0) rfl rfl (by decide) (by decide) (g := (mkF m 313 #[.val (.int i0), .val (.int i1), .val (.int i2), .val (.int i3), .val (.int i4), .val (.int i5), .val (.int i6), .val (.int i7), .val (.int i8), .val (.int i9), .val (.int i10), .val (.int i11), .val (.ref (n0 + ob12)), .val (.int i13), .val (.int i14), .val (.int i15), .val (.int t0)] [(.int i15), (.ref (n0 + ob12))])) rfl (by rw [hml]; rfl) (rest := []) (lenOf pd_5 rfl) rfl (by show 2 * 0 + _ ≤ _; exact Nat.le_of_eq rfl) (hb hby at_313) (by show _ + 0 ≤ 40; omega) (by show _ + 0 ≤ 384; omega)
    refine Gl.on (B := T50.setTop (mkF m 318 #[.val (.int i0), .val (.int i1), .val (.int i2), .val (.int i3), .val (.int i4), .val (.int i5), .val (.int i6), .val (.int i7), .val (.int i8), .val (.int i9), .val (.int i10), .val (.int i11), .val (.ref (n0 + ob12)), .val (.int i13), .val (.int i14), .val (.int i15), .val (.int t0)] [(.int i11), (.int x52)])) (fun t k => ?_) ?_
    · show Steps p.tables e below (T0.setTop (mkF m 306 #[.val (.int i0), .val (.int i1), .val (.int i2), .val (.int i3), .val (.int i4), .val (.int i5), .val (.int i6), .val (.int i7), .val (.int i8), .val (.int i9), .val (.int i10), .val (.int i11), .val (.ref (n0 + ob12)), .val (.int i13), .val (.int i14), .val (.int i15), .val (.int t0)] [(.int t0)])) _
      refine XS.ifNo X0.here hx rfl (hb hby at_306) rfl ((if0 _ _).trans (feq hc49).1) ?_
      show Steps p.tables e below (T0.setTop (mkF m 309 #[.val (.int i0), .val (.int i1), .val (.int i2), .val (.int i3), .val (.int i4), .val (.int i5), .val (.int i6), .val (.int i7), .val (.int i8), .val (.int i9), .val (.int i10), .val (.int i11), .val (.ref (n0 + ob12)), .val (.int i13), .val (.int i14), .val (.int i15), .val (.int t0)] [])) _
      refine XS.aload X0.here hx rfl (hb hby at_309) rfl rfl ?_
      show Steps p.tables e below (T0.setTop (mkF m 311 #[.val (.int i0), .val (.int i1), .val (.int i2), .val (.int i3), .val (.int i4), .val (.int i5), .val (.int i6), .val (.int i7), .val (.int i8), .val (.int i9), .val (.int i10), .val (.int i11), .val (.ref (n0 + ob12)), .val (.int i13), .val (.int i14), .val (.int i15), .val (.int t0)] [(.ref (n0 + ob12))])) _
      refine XS.iload X0.here hx rfl (hb hby at_311) rfl ?_
      show Steps p.tables e below (T0.setTop (mkF m 313 #[.val (.int i0), .val (.int i1), .val (.int i2), .val (.int i3), .val (.int i4), .val (.int i5), .val (.int i6), .val (.int i7), .val (.int i8), .val (.int i9), .val (.int i10), .val (.int i11), .val (.ref (n0 + ob12)), .val (.int i13), .val (.int i14), .val (.int i15), .val (.int t0)] [(.int i15), (.ref (n0 + ob12))])) _
      refine st50 _ ?_
      show Steps p.tables e below (T50.setTop (mkF m 316 #[.val (.int i0), .val (.int i1), .val (.int i2), .val (.int i3), .val (.int i4), .val (.int i5), .val (.int i6), .val (.int i7), .val (.int i8), .val (.int i9), .val (.int i10), .val (.int i11), .val (.ref (n0 + ob12)), .val (.int i13), .val (.int i14), .val (.int i15), .val (.int t0)] [(.int x52)])) _
      refine XS.iload X50.here hx rfl (hb hby at_316) rfl ?_
      exact k
    by_cases hc53 : x52 = i11
    · rw [if_pos hc53] at hf
      refine Gl.on (B := T50.setTop (mkF m 326 #[.val (.int i0), .val (.int i1), .val (.int i2), .val (.int i3), .val (.int i4), .val (.int i5), .val (.int i6), .val (.int i7), .val (.int i8), .val (.int i9), .val (.int i10), .val (.int i11), .val (.ref (n0 + ob12)), .val (.int i13), .val (.int i14), .val (.int i15), .val (.int t0)] [(.int (1 : Int32))])) (fun t k => ?_) ?_
      · show Steps p.tables e below (T50.setTop (mkF m 318 #[.val (.int i0), .val (.int i1), .val (.int i2), .val (.int i3), .val (.int i4), .val (.int i5), .val (.int i6), .val (.int i7), .val (.int i8), .val (.int i9), .val (.int i10), .val (.int i11), .val (.ref (n0 + ob12)), .val (.int i13), .val (.int i14), .val (.int i15), .val (.int t0)] [(.int i11), (.int x52)])) _
        refine XS.icmpNo X50.here hx rfl (hb hby at_318) rfl (teq hc53).2 ?_
        show Steps p.tables e below (T50.setTop (mkF m 321 #[.val (.int i0), .val (.int i1), .val (.int i2), .val (.int i3), .val (.int i4), .val (.int i5), .val (.int i6), .val (.int i7), .val (.int i8), .val (.int i9), .val (.int i10), .val (.int i11), .val (.ref (n0 + ob12)), .val (.int i13), .val (.int i14), .val (.int i15), .val (.int t0)] [])) _
        refine XS.iconst X50.here hx rfl (hb hby at_321) ?_
        show Steps p.tables e below (T50.setTop (mkF m 322 #[.val (.int i0), .val (.int i1), .val (.int i2), .val (.int i3), .val (.int i4), .val (.int i5), .val (.int i6), .val (.int i7), .val (.int i8), .val (.int i9), .val (.int i10), .val (.int i11), .val (.ref (n0 + ob12)), .val (.int i13), .val (.int i14), .val (.int i15), .val (.int t0)] [(.int (1 : Int32))])) _
        refine XS.goto X50.here hx rfl (pc0 := 322) (pc' := 326) rfl (hb hby at_322) (by decide) (by decide) ?_
        exact k
      exact bt0_326 hw hC X50 e50 O50 N50 (by omega) (by omega) hf
    · rw [if_neg hc53] at hf
      refine Gl.on (B := T50.setTop (mkF m 325 #[.val (.int i0), .val (.int i1), .val (.int i2), .val (.int i3), .val (.int i4), .val (.int i5), .val (.int i6), .val (.int i7), .val (.int i8), .val (.int i9), .val (.int i10), .val (.int i11), .val (.ref (n0 + ob12)), .val (.int i13), .val (.int i14), .val (.int i15), .val (.int t0)] [])) (fun t k => ?_) ?_
      · show Steps p.tables e below (T50.setTop (mkF m 318 #[.val (.int i0), .val (.int i1), .val (.int i2), .val (.int i3), .val (.int i4), .val (.int i5), .val (.int i6), .val (.int i7), .val (.int i8), .val (.int i9), .val (.int i10), .val (.int i11), .val (.ref (n0 + ob12)), .val (.int i13), .val (.int i14), .val (.int i15), .val (.int t0)] [(.int i11), (.int x52)])) _
        refine XS.icmpYes X50.here hx rfl (pc0 := 318) (pc' := 325) rfl (hb hby at_318) rfl (feq hc53).2 (by decide) (by decide) ?_
        exact k
      exact bt0_325 hw hC X50 e50 O50 N50 (by omega) (by omega) hf
def b0_301 (D : Hp) (i11 : Int32) (ob12 : Nat) (i13 : Int32) (i14 : Int32) (i15 : Int32) : Option (Int32 × Hp) :=
  b0_302 D i11 ob12 i13 i14 i15 (0 : Int32)
set_option maxRecDepth 65536 in
set_option maxHeartbeats 40000000 in
theorem bt0_301 {p : Program} {l : Launch} {e : Env} {s : State} {m : MethodId} {args : Array Value} {below : List Frame} {meth : Method} {c : Code} {Z : State} {a0 : Array Value} {n0 : Nat} {D' : Hp} {r : Int32} {T0 : State} {locs : List Loc} {cells slots : Nat} {h0 : Heap} {D : Hp} {i0 : Int32} {i1 : Int32} {i2 : Int32} {i3 : Int32} {i4 : Int32} {i5 : Int32} {i6 : Int32} {i7 : Int32} {i8 : Int32} {i9 : Int32} {i10 : Int32} {i11 : Int32} {ob12 : Nat} {i13 : Int32} {i14 : Int32} {i15 : Int32} {i16 : Int32} (hw : ∀ d ∈ tables_1, d.before a0 Z = true) (hC : Cx p s m meth c Z code maxLocals ret "com/example/planar_drawing_kit/planardrawingkit/inspect/SweepLineSwapWithAbovePinLaw" "law") (X0 : Stand p l e room_1 s m args below meth c T0 locs cells slots) (e0 : T0.heap = h0) (O0 : Ow Kt1 Z h0 n0 D) (N0 : Fr n0 locs) (hcc : cells ≤ 30) (hss : slots ≤ 354) (hf : b0_301 D i11 ob12 i13 i14 i15 = some (r, D')) : Gl p e below s 40 384 (Qw Kt1 Z n0 (some (.int r)) D') (T0.setTop (mkF m 301 #[.val (.int i0), .val (.int i1), .val (.int i2), .val (.int i3), .val (.int i4), .val (.int i5), .val (.int i6), .val (.int i7), .val (.int i8), .val (.int i9), .val (.int i10), .val (.int i11), .val (.ref (n0 + ob12)), .val (.int i13), .val (.int i14), .val (.int i15), .val (.int i16)] [])) := by
  obtain ⟨hx, hZ, hby, hml, hown, hnm, hret, hlk⟩ := id hC
  have hml : c.maxLocals = 17 := hml
  rw [b0_301] at hf
  refine Gl.on (B := T0.setTop (mkF m 302 #[.val (.int i0), .val (.int i1), .val (.int i2), .val (.int i3), .val (.int i4), .val (.int i5), .val (.int i6), .val (.int i7), .val (.int i8), .val (.int i9), .val (.int i10), .val (.int i11), .val (.ref (n0 + ob12)), .val (.int i13), .val (.int i14), .val (.int i15), .val (.int i16)] [(.int (0 : Int32))])) (fun t k => ?_) ?_
  · show Steps p.tables e below (T0.setTop (mkF m 301 #[.val (.int i0), .val (.int i1), .val (.int i2), .val (.int i3), .val (.int i4), .val (.int i5), .val (.int i6), .val (.int i7), .val (.int i8), .val (.int i9), .val (.int i10), .val (.int i11), .val (.ref (n0 + ob12)), .val (.int i13), .val (.int i14), .val (.int i15), .val (.int i16)] [])) _
    refine XS.iconst X0.here hx rfl (hb hby at_301) ?_
    exact k
  exact bt0_302 hw hC X0 e0 O0 N0 (by omega) (by omega) hf
def b0_278 (D : Hp) (i11 : Int32) (ob12 : Nat) (i13 : Int32) (i14 : Int32) (i15 : Int32) (t0 : Int32) : Option (Int32 × Hp) :=
  if t0 = (0 : Int32) then (b0_301 D i11 ob12 i13 i14 i15) else ((ck D ob12 1).bind fun u46 => (f16 D ob12 i14).bind fun q45 => own_let q45.1 fun x47 => own_let q45.2 fun D45 =>
  if x47 = i15 then (b0_302 D45 i11 ob12 i13 i14 i15 (1 : Int32)) else (b0_301 D45 i11 ob12 i13 i14 i15))
set_option maxRecDepth 65536 in
set_option maxHeartbeats 40000000 in
theorem bt0_278 {p : Program} {l : Launch} {e : Env} {s : State} {m : MethodId} {args : Array Value} {below : List Frame} {meth : Method} {c : Code} {Z : State} {a0 : Array Value} {n0 : Nat} {D' : Hp} {r : Int32} {T0 : State} {locs : List Loc} {cells slots : Nat} {h0 : Heap} {D : Hp} {i0 : Int32} {i1 : Int32} {i2 : Int32} {i3 : Int32} {i4 : Int32} {i5 : Int32} {i6 : Int32} {i7 : Int32} {i8 : Int32} {i9 : Int32} {i10 : Int32} {i11 : Int32} {ob12 : Nat} {i13 : Int32} {i14 : Int32} {i15 : Int32} {i16 : Int32} {t0 : Int32} (hw : ∀ d ∈ tables_1, d.before a0 Z = true) (hC : Cx p s m meth c Z code maxLocals ret "com/example/planar_drawing_kit/planardrawingkit/inspect/SweepLineSwapWithAbovePinLaw" "law") (X0 : Stand p l e room_1 s m args below meth c T0 locs cells slots) (e0 : T0.heap = h0) (O0 : Ow Kt1 Z h0 n0 D) (N0 : Fr n0 locs) (hcc : cells ≤ 30) (hss : slots ≤ 354) (hf : b0_278 D i11 ob12 i13 i14 i15 t0 = some (r, D')) : Gl p e below s 40 384 (Qw Kt1 Z n0 (some (.int r)) D') (T0.setTop (mkF m 278 #[.val (.int i0), .val (.int i1), .val (.int i2), .val (.int i3), .val (.int i4), .val (.int i5), .val (.int i6), .val (.int i7), .val (.int i8), .val (.int i9), .val (.int i10), .val (.int i11), .val (.ref (n0 + ob12)), .val (.int i13), .val (.int i14), .val (.int i15), .val (.int i16)] [(.int t0)])) := by
  obtain ⟨hx, hZ, hby, hml, hown, hnm, hret, hlk⟩ := id hC
  have hml : c.maxLocals = 17 := hml
  rw [b0_278] at hf
  refine Gl.on (B := T0.setTop (mkF m 282 #[.val (.int i0), .val (.int i1), .val (.int i2), .val (.int i3), .val (.int i4), .val (.int i5), .val (.int i6), .val (.int i7), .val (.int i8), .val (.int i9), .val (.int i10), .val (.int i11), .val (.ref (n0 + ob12)), .val (.int i13), .val (.int i14), .val (.int i15), .val (.int t0)] [(.int t0)])) (fun t k => ?_) ?_
  · show Steps p.tables e below (T0.setTop (mkF m 278 #[.val (.int i0), .val (.int i1), .val (.int i2), .val (.int i3), .val (.int i4), .val (.int i5), .val (.int i6), .val (.int i7), .val (.int i8), .val (.int i9), .val (.int i10), .val (.int i11), .val (.ref (n0 + ob12)), .val (.int i13), .val (.int i14), .val (.int i15), .val (.int i16)] [(.int t0)])) _
    refine XS.istore X0.here hx rfl (hb hby at_278) rfl (l' := #[.val (.int i0), .val (.int i1), .val (.int i2), .val (.int i3), .val (.int i4), .val (.int i5), .val (.int i6), .val (.int i7), .val (.int i8), .val (.int i9), .val (.int i10), .val (.int i11), .val (.ref (n0 + ob12)), .val (.int i13), .val (.int i14), .val (.int i15), .val (.int t0)]) rfl ?_
    show Steps p.tables e below (T0.setTop (mkF m 280 #[.val (.int i0), .val (.int i1), .val (.int i2), .val (.int i3), .val (.int i4), .val (.int i5), .val (.int i6), .val (.int i7), .val (.int i8), .val (.int i9), .val (.int i10), .val (.int i11), .val (.ref (n0 + ob12)), .val (.int i13), .val (.int i14), .val (.int i15), .val (.int t0)] [])) _
    refine XS.iload X0.here hx rfl (hb hby at_280) rfl ?_
    exact k
  by_cases hc44 : t0 = (0 : Int32)
  · rw [if_pos hc44] at hf
    refine Gl.on (B := T0.setTop (mkF m 301 #[.val (.int i0), .val (.int i1), .val (.int i2), .val (.int i3), .val (.int i4), .val (.int i5), .val (.int i6), .val (.int i7), .val (.int i8), .val (.int i9), .val (.int i10), .val (.int i11), .val (.ref (n0 + ob12)), .val (.int i13), .val (.int i14), .val (.int i15), .val (.int t0)] [])) (fun t k => ?_) ?_
    · show Steps p.tables e below (T0.setTop (mkF m 282 #[.val (.int i0), .val (.int i1), .val (.int i2), .val (.int i3), .val (.int i4), .val (.int i5), .val (.int i6), .val (.int i7), .val (.int i8), .val (.int i9), .val (.int i10), .val (.int i11), .val (.ref (n0 + ob12)), .val (.int i13), .val (.int i14), .val (.int i15), .val (.int t0)] [(.int t0)])) _
      refine XS.ifYes X0.here hx rfl (pc0 := 282) (pc' := 301) rfl (hb hby at_282) rfl ((if0 _ _).trans (teq hc44).1) (by decide) (by decide) ?_
      exact k
    exact bt0_301 hw hC X0 e0 O0 N0 (by omega) (by omega) hf
  · rw [if_neg hc44] at hf
    obtain ⟨u46, hk45, hf⟩ := own_bind hf
    obtain ⟨⟨x47, D45⟩, hq45, hf⟩ := own_bind hf
    obtain ⟨_, rfl, hf⟩ := own_letE hf
    obtain ⟨_, rfl, hf⟩ := own_letE hf
    obtain ⟨T45, h45, L45, X45, e45, O45, N45, st45⟩ := callVW X0 hx hZ (y := (⟨"com/example/planar_drawing_kit/planardrawingkit/inspect/SweepLine", "above", "(I)I"⟩ : MethodName)) hown (hw _ (List.mem_of_getElem? (i := 98) rfl)) (hw _ (List.mem_of_getElem? (i := 99) rfl)) (hw _ (List.mem_of_getElem? (i := 101) rfl)) (hw _ (List.mem_of_getElem? (i := 100) rfl)) (hw _ (List.mem_of_getElem? (i := 3) rfl)) (hw _ (List.mem_of_getElem? (i := 102) rfl)) (by decide) e0 O0 N0 hk45 rfl (as' := [(.int i14)]) (ct16 hw hq45) (W := 0) (kc := 0) (ks := 0) rfl rfl (by decide) (by decide) (g := (mkF m 289 #[.val (.int i0), .val (.int i1), .val (.int i2), .val (.int i3), .val (.int i4), .val (.int i5), .val (.int i6), .val (.int i7), .val (.int i8), .val (.int i9), .val (.int i10), .val (.int i11), .val (.ref (n0 + ob12)), .val (.int i13), .val (.int i14), .val (.int i15), .val (.int t0)] [(.int i14), (.ref (n0 + ob12))])) rfl (by rw [hml]; rfl) (rest := []) (lenOf pd_5 rfl) rfl (by show 2 * 0 + _ ≤ _; exact Nat.le_of_eq rfl) (hb hby at_289) (by show _ + 0 ≤ 40; omega) (by show _ + 0 ≤ 384; omega)
    refine Gl.on (B := T45.setTop (mkF m 294 #[.val (.int i0), .val (.int i1), .val (.int i2), .val (.int i3), .val (.int i4), .val (.int i5), .val (.int i6), .val (.int i7), .val (.int i8), .val (.int i9), .val (.int i10), .val (.int i11), .val (.ref (n0 + ob12)), .val (.int i13), .val (.int i14), .val (.int i15), .val (.int t0)] [(.int i15), (.int x47)])) (fun t k => ?_) ?_
    · show Steps p.tables e below (T0.setTop (mkF m 282 #[.val (.int i0), .val (.int i1), .val (.int i2), .val (.int i3), .val (.int i4), .val (.int i5), .val (.int i6), .val (.int i7), .val (.int i8), .val (.int i9), .val (.int i10), .val (.int i11), .val (.ref (n0 + ob12)), .val (.int i13), .val (.int i14), .val (.int i15), .val (.int t0)] [(.int t0)])) _
      refine XS.ifNo X0.here hx rfl (hb hby at_282) rfl ((if0 _ _).trans (feq hc44).1) ?_
      show Steps p.tables e below (T0.setTop (mkF m 285 #[.val (.int i0), .val (.int i1), .val (.int i2), .val (.int i3), .val (.int i4), .val (.int i5), .val (.int i6), .val (.int i7), .val (.int i8), .val (.int i9), .val (.int i10), .val (.int i11), .val (.ref (n0 + ob12)), .val (.int i13), .val (.int i14), .val (.int i15), .val (.int t0)] [])) _
      refine XS.aload X0.here hx rfl (hb hby at_285) rfl rfl ?_
      show Steps p.tables e below (T0.setTop (mkF m 287 #[.val (.int i0), .val (.int i1), .val (.int i2), .val (.int i3), .val (.int i4), .val (.int i5), .val (.int i6), .val (.int i7), .val (.int i8), .val (.int i9), .val (.int i10), .val (.int i11), .val (.ref (n0 + ob12)), .val (.int i13), .val (.int i14), .val (.int i15), .val (.int t0)] [(.ref (n0 + ob12))])) _
      refine XS.iload X0.here hx rfl (hb hby at_287) rfl ?_
      show Steps p.tables e below (T0.setTop (mkF m 289 #[.val (.int i0), .val (.int i1), .val (.int i2), .val (.int i3), .val (.int i4), .val (.int i5), .val (.int i6), .val (.int i7), .val (.int i8), .val (.int i9), .val (.int i10), .val (.int i11), .val (.ref (n0 + ob12)), .val (.int i13), .val (.int i14), .val (.int i15), .val (.int t0)] [(.int i14), (.ref (n0 + ob12))])) _
      refine st45 _ ?_
      show Steps p.tables e below (T45.setTop (mkF m 292 #[.val (.int i0), .val (.int i1), .val (.int i2), .val (.int i3), .val (.int i4), .val (.int i5), .val (.int i6), .val (.int i7), .val (.int i8), .val (.int i9), .val (.int i10), .val (.int i11), .val (.ref (n0 + ob12)), .val (.int i13), .val (.int i14), .val (.int i15), .val (.int t0)] [(.int x47)])) _
      refine XS.iload X45.here hx rfl (hb hby at_292) rfl ?_
      exact k
    by_cases hc48 : x47 = i15
    · rw [if_pos hc48] at hf
      refine Gl.on (B := T45.setTop (mkF m 302 #[.val (.int i0), .val (.int i1), .val (.int i2), .val (.int i3), .val (.int i4), .val (.int i5), .val (.int i6), .val (.int i7), .val (.int i8), .val (.int i9), .val (.int i10), .val (.int i11), .val (.ref (n0 + ob12)), .val (.int i13), .val (.int i14), .val (.int i15), .val (.int t0)] [(.int (1 : Int32))])) (fun t k => ?_) ?_
      · show Steps p.tables e below (T45.setTop (mkF m 294 #[.val (.int i0), .val (.int i1), .val (.int i2), .val (.int i3), .val (.int i4), .val (.int i5), .val (.int i6), .val (.int i7), .val (.int i8), .val (.int i9), .val (.int i10), .val (.int i11), .val (.ref (n0 + ob12)), .val (.int i13), .val (.int i14), .val (.int i15), .val (.int t0)] [(.int i15), (.int x47)])) _
        refine XS.icmpNo X45.here hx rfl (hb hby at_294) rfl (teq hc48).2 ?_
        show Steps p.tables e below (T45.setTop (mkF m 297 #[.val (.int i0), .val (.int i1), .val (.int i2), .val (.int i3), .val (.int i4), .val (.int i5), .val (.int i6), .val (.int i7), .val (.int i8), .val (.int i9), .val (.int i10), .val (.int i11), .val (.ref (n0 + ob12)), .val (.int i13), .val (.int i14), .val (.int i15), .val (.int t0)] [])) _
        refine XS.iconst X45.here hx rfl (hb hby at_297) ?_
        show Steps p.tables e below (T45.setTop (mkF m 298 #[.val (.int i0), .val (.int i1), .val (.int i2), .val (.int i3), .val (.int i4), .val (.int i5), .val (.int i6), .val (.int i7), .val (.int i8), .val (.int i9), .val (.int i10), .val (.int i11), .val (.ref (n0 + ob12)), .val (.int i13), .val (.int i14), .val (.int i15), .val (.int t0)] [(.int (1 : Int32))])) _
        refine XS.goto X45.here hx rfl (pc0 := 298) (pc' := 302) rfl (hb hby at_298) (by decide) (by decide) ?_
        exact k
      exact bt0_302 hw hC X45 e45 O45 N45 (by omega) (by omega) hf
    · rw [if_neg hc48] at hf
      refine Gl.on (B := T45.setTop (mkF m 301 #[.val (.int i0), .val (.int i1), .val (.int i2), .val (.int i3), .val (.int i4), .val (.int i5), .val (.int i6), .val (.int i7), .val (.int i8), .val (.int i9), .val (.int i10), .val (.int i11), .val (.ref (n0 + ob12)), .val (.int i13), .val (.int i14), .val (.int i15), .val (.int t0)] [])) (fun t k => ?_) ?_
      · show Steps p.tables e below (T45.setTop (mkF m 294 #[.val (.int i0), .val (.int i1), .val (.int i2), .val (.int i3), .val (.int i4), .val (.int i5), .val (.int i6), .val (.int i7), .val (.int i8), .val (.int i9), .val (.int i10), .val (.int i11), .val (.ref (n0 + ob12)), .val (.int i13), .val (.int i14), .val (.int i15), .val (.int t0)] [(.int i15), (.int x47)])) _
        refine XS.icmpYes X45.here hx rfl (pc0 := 294) (pc' := 301) rfl (hb hby at_294) rfl (feq hc48).2 (by decide) (by decide) ?_
        exact k
      exact bt0_301 hw hC X45 e45 O45 N45 (by omega) (by omega) hf
def b0_277 (D : Hp) (i11 : Int32) (ob12 : Nat) (i13 : Int32) (i14 : Int32) (i15 : Int32) : Option (Int32 × Hp) :=
  b0_278 D i11 ob12 i13 i14 i15 (0 : Int32)
set_option maxRecDepth 65536 in
set_option maxHeartbeats 40000000 in
theorem bt0_277 {p : Program} {l : Launch} {e : Env} {s : State} {m : MethodId} {args : Array Value} {below : List Frame} {meth : Method} {c : Code} {Z : State} {a0 : Array Value} {n0 : Nat} {D' : Hp} {r : Int32} {T0 : State} {locs : List Loc} {cells slots : Nat} {h0 : Heap} {D : Hp} {i0 : Int32} {i1 : Int32} {i2 : Int32} {i3 : Int32} {i4 : Int32} {i5 : Int32} {i6 : Int32} {i7 : Int32} {i8 : Int32} {i9 : Int32} {i10 : Int32} {i11 : Int32} {ob12 : Nat} {i13 : Int32} {i14 : Int32} {i15 : Int32} {i16 : Int32} (hw : ∀ d ∈ tables_1, d.before a0 Z = true) (hC : Cx p s m meth c Z code maxLocals ret "com/example/planar_drawing_kit/planardrawingkit/inspect/SweepLineSwapWithAbovePinLaw" "law") (X0 : Stand p l e room_1 s m args below meth c T0 locs cells slots) (e0 : T0.heap = h0) (O0 : Ow Kt1 Z h0 n0 D) (N0 : Fr n0 locs) (hcc : cells ≤ 30) (hss : slots ≤ 354) (hf : b0_277 D i11 ob12 i13 i14 i15 = some (r, D')) : Gl p e below s 40 384 (Qw Kt1 Z n0 (some (.int r)) D') (T0.setTop (mkF m 277 #[.val (.int i0), .val (.int i1), .val (.int i2), .val (.int i3), .val (.int i4), .val (.int i5), .val (.int i6), .val (.int i7), .val (.int i8), .val (.int i9), .val (.int i10), .val (.int i11), .val (.ref (n0 + ob12)), .val (.int i13), .val (.int i14), .val (.int i15), .val (.int i16)] [])) := by
  obtain ⟨hx, hZ, hby, hml, hown, hnm, hret, hlk⟩ := id hC
  have hml : c.maxLocals = 17 := hml
  rw [b0_277] at hf
  refine Gl.on (B := T0.setTop (mkF m 278 #[.val (.int i0), .val (.int i1), .val (.int i2), .val (.int i3), .val (.int i4), .val (.int i5), .val (.int i6), .val (.int i7), .val (.int i8), .val (.int i9), .val (.int i10), .val (.int i11), .val (.ref (n0 + ob12)), .val (.int i13), .val (.int i14), .val (.int i15), .val (.int i16)] [(.int (0 : Int32))])) (fun t k => ?_) ?_
  · show Steps p.tables e below (T0.setTop (mkF m 277 #[.val (.int i0), .val (.int i1), .val (.int i2), .val (.int i3), .val (.int i4), .val (.int i5), .val (.int i6), .val (.int i7), .val (.int i8), .val (.int i9), .val (.int i10), .val (.int i11), .val (.ref (n0 + ob12)), .val (.int i13), .val (.int i14), .val (.int i15), .val (.int i16)] [])) _
    refine XS.iconst X0.here hx rfl (hb hby at_277) ?_
    exact k
  exact bt0_278 hw hC X0 e0 O0 N0 (by omega) (by omega) hf
def b0_254 (D : Hp) (i11 : Int32) (ob12 : Nat) (i13 : Int32) (i14 : Int32) (i15 : Int32) (t0 : Int32) : Option (Int32 × Hp) :=
  if t0 = (0 : Int32) then (b0_277 D i11 ob12 i13 i14 i15) else ((ck D ob12 1).bind fun u41 => (f16 D ob12 i13).bind fun q40 => own_let q40.1 fun x42 => own_let q40.2 fun D40 =>
  if x42 = i14 then (b0_278 D40 i11 ob12 i13 i14 i15 (1 : Int32)) else (b0_277 D40 i11 ob12 i13 i14 i15))
set_option maxRecDepth 65536 in
set_option maxHeartbeats 40000000 in
theorem bt0_254 {p : Program} {l : Launch} {e : Env} {s : State} {m : MethodId} {args : Array Value} {below : List Frame} {meth : Method} {c : Code} {Z : State} {a0 : Array Value} {n0 : Nat} {D' : Hp} {r : Int32} {T0 : State} {locs : List Loc} {cells slots : Nat} {h0 : Heap} {D : Hp} {i0 : Int32} {i1 : Int32} {i2 : Int32} {i3 : Int32} {i4 : Int32} {i5 : Int32} {i6 : Int32} {i7 : Int32} {i8 : Int32} {i9 : Int32} {i10 : Int32} {i11 : Int32} {ob12 : Nat} {i13 : Int32} {i14 : Int32} {i15 : Int32} {i16 : Int32} {t0 : Int32} (hw : ∀ d ∈ tables_1, d.before a0 Z = true) (hC : Cx p s m meth c Z code maxLocals ret "com/example/planar_drawing_kit/planardrawingkit/inspect/SweepLineSwapWithAbovePinLaw" "law") (X0 : Stand p l e room_1 s m args below meth c T0 locs cells slots) (e0 : T0.heap = h0) (O0 : Ow Kt1 Z h0 n0 D) (N0 : Fr n0 locs) (hcc : cells ≤ 30) (hss : slots ≤ 354) (hf : b0_254 D i11 ob12 i13 i14 i15 t0 = some (r, D')) : Gl p e below s 40 384 (Qw Kt1 Z n0 (some (.int r)) D') (T0.setTop (mkF m 254 #[.val (.int i0), .val (.int i1), .val (.int i2), .val (.int i3), .val (.int i4), .val (.int i5), .val (.int i6), .val (.int i7), .val (.int i8), .val (.int i9), .val (.int i10), .val (.int i11), .val (.ref (n0 + ob12)), .val (.int i13), .val (.int i14), .val (.int i15), .val (.int i16)] [(.int t0)])) := by
  obtain ⟨hx, hZ, hby, hml, hown, hnm, hret, hlk⟩ := id hC
  have hml : c.maxLocals = 17 := hml
  rw [b0_254] at hf
  refine Gl.on (B := T0.setTop (mkF m 258 #[.val (.int i0), .val (.int i1), .val (.int i2), .val (.int i3), .val (.int i4), .val (.int i5), .val (.int i6), .val (.int i7), .val (.int i8), .val (.int i9), .val (.int i10), .val (.int i11), .val (.ref (n0 + ob12)), .val (.int i13), .val (.int i14), .val (.int i15), .val (.int t0)] [(.int t0)])) (fun t k => ?_) ?_
  · show Steps p.tables e below (T0.setTop (mkF m 254 #[.val (.int i0), .val (.int i1), .val (.int i2), .val (.int i3), .val (.int i4), .val (.int i5), .val (.int i6), .val (.int i7), .val (.int i8), .val (.int i9), .val (.int i10), .val (.int i11), .val (.ref (n0 + ob12)), .val (.int i13), .val (.int i14), .val (.int i15), .val (.int i16)] [(.int t0)])) _
    refine XS.istore X0.here hx rfl (hb hby at_254) rfl (l' := #[.val (.int i0), .val (.int i1), .val (.int i2), .val (.int i3), .val (.int i4), .val (.int i5), .val (.int i6), .val (.int i7), .val (.int i8), .val (.int i9), .val (.int i10), .val (.int i11), .val (.ref (n0 + ob12)), .val (.int i13), .val (.int i14), .val (.int i15), .val (.int t0)]) rfl ?_
    show Steps p.tables e below (T0.setTop (mkF m 256 #[.val (.int i0), .val (.int i1), .val (.int i2), .val (.int i3), .val (.int i4), .val (.int i5), .val (.int i6), .val (.int i7), .val (.int i8), .val (.int i9), .val (.int i10), .val (.int i11), .val (.ref (n0 + ob12)), .val (.int i13), .val (.int i14), .val (.int i15), .val (.int t0)] [])) _
    refine XS.iload X0.here hx rfl (hb hby at_256) rfl ?_
    exact k
  by_cases hc39 : t0 = (0 : Int32)
  · rw [if_pos hc39] at hf
    refine Gl.on (B := T0.setTop (mkF m 277 #[.val (.int i0), .val (.int i1), .val (.int i2), .val (.int i3), .val (.int i4), .val (.int i5), .val (.int i6), .val (.int i7), .val (.int i8), .val (.int i9), .val (.int i10), .val (.int i11), .val (.ref (n0 + ob12)), .val (.int i13), .val (.int i14), .val (.int i15), .val (.int t0)] [])) (fun t k => ?_) ?_
    · show Steps p.tables e below (T0.setTop (mkF m 258 #[.val (.int i0), .val (.int i1), .val (.int i2), .val (.int i3), .val (.int i4), .val (.int i5), .val (.int i6), .val (.int i7), .val (.int i8), .val (.int i9), .val (.int i10), .val (.int i11), .val (.ref (n0 + ob12)), .val (.int i13), .val (.int i14), .val (.int i15), .val (.int t0)] [(.int t0)])) _
      refine XS.ifYes X0.here hx rfl (pc0 := 258) (pc' := 277) rfl (hb hby at_258) rfl ((if0 _ _).trans (teq hc39).1) (by decide) (by decide) ?_
      exact k
    exact bt0_277 hw hC X0 e0 O0 N0 (by omega) (by omega) hf
  · rw [if_neg hc39] at hf
    obtain ⟨u41, hk40, hf⟩ := own_bind hf
    obtain ⟨⟨x42, D40⟩, hq40, hf⟩ := own_bind hf
    obtain ⟨_, rfl, hf⟩ := own_letE hf
    obtain ⟨_, rfl, hf⟩ := own_letE hf
    obtain ⟨T40, h40, L40, X40, e40, O40, N40, st40⟩ := callVW X0 hx hZ (y := (⟨"com/example/planar_drawing_kit/planardrawingkit/inspect/SweepLine", "above", "(I)I"⟩ : MethodName)) hown (hw _ (List.mem_of_getElem? (i := 98) rfl)) (hw _ (List.mem_of_getElem? (i := 99) rfl)) (hw _ (List.mem_of_getElem? (i := 101) rfl)) (hw _ (List.mem_of_getElem? (i := 100) rfl)) (hw _ (List.mem_of_getElem? (i := 3) rfl)) (hw _ (List.mem_of_getElem? (i := 102) rfl)) (by decide) e0 O0 N0 hk40 rfl (as' := [(.int i13)]) (ct16 hw hq40) (W := 0) (kc := 0) (ks := 0) rfl rfl (by decide) (by decide) (g := (mkF m 265 #[.val (.int i0), .val (.int i1), .val (.int i2), .val (.int i3), .val (.int i4), .val (.int i5), .val (.int i6), .val (.int i7), .val (.int i8), .val (.int i9), .val (.int i10), .val (.int i11), .val (.ref (n0 + ob12)), .val (.int i13), .val (.int i14), .val (.int i15), .val (.int t0)] [(.int i13), (.ref (n0 + ob12))])) rfl (by rw [hml]; rfl) (rest := []) (lenOf pd_5 rfl) rfl (by show 2 * 0 + _ ≤ _; exact Nat.le_of_eq rfl) (hb hby at_265) (by show _ + 0 ≤ 40; omega) (by show _ + 0 ≤ 384; omega)
    refine Gl.on (B := T40.setTop (mkF m 270 #[.val (.int i0), .val (.int i1), .val (.int i2), .val (.int i3), .val (.int i4), .val (.int i5), .val (.int i6), .val (.int i7), .val (.int i8), .val (.int i9), .val (.int i10), .val (.int i11), .val (.ref (n0 + ob12)), .val (.int i13), .val (.int i14), .val (.int i15), .val (.int t0)] [(.int i14), (.int x42)])) (fun t k => ?_) ?_
    · show Steps p.tables e below (T0.setTop (mkF m 258 #[.val (.int i0), .val (.int i1), .val (.int i2), .val (.int i3), .val (.int i4), .val (.int i5), .val (.int i6), .val (.int i7), .val (.int i8), .val (.int i9), .val (.int i10), .val (.int i11), .val (.ref (n0 + ob12)), .val (.int i13), .val (.int i14), .val (.int i15), .val (.int t0)] [(.int t0)])) _
      refine XS.ifNo X0.here hx rfl (hb hby at_258) rfl ((if0 _ _).trans (feq hc39).1) ?_
      show Steps p.tables e below (T0.setTop (mkF m 261 #[.val (.int i0), .val (.int i1), .val (.int i2), .val (.int i3), .val (.int i4), .val (.int i5), .val (.int i6), .val (.int i7), .val (.int i8), .val (.int i9), .val (.int i10), .val (.int i11), .val (.ref (n0 + ob12)), .val (.int i13), .val (.int i14), .val (.int i15), .val (.int t0)] [])) _
      refine XS.aload X0.here hx rfl (hb hby at_261) rfl rfl ?_
      show Steps p.tables e below (T0.setTop (mkF m 263 #[.val (.int i0), .val (.int i1), .val (.int i2), .val (.int i3), .val (.int i4), .val (.int i5), .val (.int i6), .val (.int i7), .val (.int i8), .val (.int i9), .val (.int i10), .val (.int i11), .val (.ref (n0 + ob12)), .val (.int i13), .val (.int i14), .val (.int i15), .val (.int t0)] [(.ref (n0 + ob12))])) _
      refine XS.iload X0.here hx rfl (hb hby at_263) rfl ?_
      show Steps p.tables e below (T0.setTop (mkF m 265 #[.val (.int i0), .val (.int i1), .val (.int i2), .val (.int i3), .val (.int i4), .val (.int i5), .val (.int i6), .val (.int i7), .val (.int i8), .val (.int i9), .val (.int i10), .val (.int i11), .val (.ref (n0 + ob12)), .val (.int i13), .val (.int i14), .val (.int i15), .val (.int t0)] [(.int i13), (.ref (n0 + ob12))])) _
      refine st40 _ ?_
      show Steps p.tables e below (T40.setTop (mkF m 268 #[.val (.int i0), .val (.int i1), .val (.int i2), .val (.int i3), .val (.int i4), .val (.int i5), .val (.int i6), .val (.int i7), .val (.int i8), .val (.int i9), .val (.int i10), .val (.int i11), .val (.ref (n0 + ob12)), .val (.int i13), .val (.int i14), .val (.int i15), .val (.int t0)] [(.int x42)])) _
      refine XS.iload X40.here hx rfl (hb hby at_268) rfl ?_
      exact k
    by_cases hc43 : x42 = i14
    · rw [if_pos hc43] at hf
      refine Gl.on (B := T40.setTop (mkF m 278 #[.val (.int i0), .val (.int i1), .val (.int i2), .val (.int i3), .val (.int i4), .val (.int i5), .val (.int i6), .val (.int i7), .val (.int i8), .val (.int i9), .val (.int i10), .val (.int i11), .val (.ref (n0 + ob12)), .val (.int i13), .val (.int i14), .val (.int i15), .val (.int t0)] [(.int (1 : Int32))])) (fun t k => ?_) ?_
      · show Steps p.tables e below (T40.setTop (mkF m 270 #[.val (.int i0), .val (.int i1), .val (.int i2), .val (.int i3), .val (.int i4), .val (.int i5), .val (.int i6), .val (.int i7), .val (.int i8), .val (.int i9), .val (.int i10), .val (.int i11), .val (.ref (n0 + ob12)), .val (.int i13), .val (.int i14), .val (.int i15), .val (.int t0)] [(.int i14), (.int x42)])) _
        refine XS.icmpNo X40.here hx rfl (hb hby at_270) rfl (teq hc43).2 ?_
        show Steps p.tables e below (T40.setTop (mkF m 273 #[.val (.int i0), .val (.int i1), .val (.int i2), .val (.int i3), .val (.int i4), .val (.int i5), .val (.int i6), .val (.int i7), .val (.int i8), .val (.int i9), .val (.int i10), .val (.int i11), .val (.ref (n0 + ob12)), .val (.int i13), .val (.int i14), .val (.int i15), .val (.int t0)] [])) _
        refine XS.iconst X40.here hx rfl (hb hby at_273) ?_
        show Steps p.tables e below (T40.setTop (mkF m 274 #[.val (.int i0), .val (.int i1), .val (.int i2), .val (.int i3), .val (.int i4), .val (.int i5), .val (.int i6), .val (.int i7), .val (.int i8), .val (.int i9), .val (.int i10), .val (.int i11), .val (.ref (n0 + ob12)), .val (.int i13), .val (.int i14), .val (.int i15), .val (.int t0)] [(.int (1 : Int32))])) _
        refine XS.goto X40.here hx rfl (pc0 := 274) (pc' := 278) rfl (hb hby at_274) (by decide) (by decide) ?_
        exact k
      exact bt0_278 hw hC X40 e40 O40 N40 (by omega) (by omega) hf
    · rw [if_neg hc43] at hf
      refine Gl.on (B := T40.setTop (mkF m 277 #[.val (.int i0), .val (.int i1), .val (.int i2), .val (.int i3), .val (.int i4), .val (.int i5), .val (.int i6), .val (.int i7), .val (.int i8), .val (.int i9), .val (.int i10), .val (.int i11), .val (.ref (n0 + ob12)), .val (.int i13), .val (.int i14), .val (.int i15), .val (.int t0)] [])) (fun t k => ?_) ?_
      · show Steps p.tables e below (T40.setTop (mkF m 270 #[.val (.int i0), .val (.int i1), .val (.int i2), .val (.int i3), .val (.int i4), .val (.int i5), .val (.int i6), .val (.int i7), .val (.int i8), .val (.int i9), .val (.int i10), .val (.int i11), .val (.ref (n0 + ob12)), .val (.int i13), .val (.int i14), .val (.int i15), .val (.int t0)] [(.int i14), (.int x42)])) _
        refine XS.icmpYes X40.here hx rfl (pc0 := 270) (pc' := 277) rfl (hb hby at_270) rfl (feq hc43).2 (by decide) (by decide) ?_
        exact k
      exact bt0_277 hw hC X40 e40 O40 N40 (by omega) (by omega) hf
def b0_253 (D : Hp) (i11 : Int32) (ob12 : Nat) (i13 : Int32) (i14 : Int32) (i15 : Int32) : Option (Int32 × Hp) :=
  b0_254 D i11 ob12 i13 i14 i15 (0 : Int32)
set_option maxRecDepth 65536 in
set_option maxHeartbeats 40000000 in
theorem bt0_253 {p : Program} {l : Launch} {e : Env} {s : State} {m : MethodId} {args : Array Value} {below : List Frame} {meth : Method} {c : Code} {Z : State} {a0 : Array Value} {n0 : Nat} {D' : Hp} {r : Int32} {T0 : State} {locs : List Loc} {cells slots : Nat} {h0 : Heap} {D : Hp} {i0 : Int32} {i1 : Int32} {i2 : Int32} {i3 : Int32} {i4 : Int32} {i5 : Int32} {i6 : Int32} {i7 : Int32} {i8 : Int32} {i9 : Int32} {i10 : Int32} {i11 : Int32} {ob12 : Nat} {i13 : Int32} {i14 : Int32} {i15 : Int32} {i16 : Int32} (hw : ∀ d ∈ tables_1, d.before a0 Z = true) (hC : Cx p s m meth c Z code maxLocals ret "com/example/planar_drawing_kit/planardrawingkit/inspect/SweepLineSwapWithAbovePinLaw" "law") (X0 : Stand p l e room_1 s m args below meth c T0 locs cells slots) (e0 : T0.heap = h0) (O0 : Ow Kt1 Z h0 n0 D) (N0 : Fr n0 locs) (hcc : cells ≤ 30) (hss : slots ≤ 354) (hf : b0_253 D i11 ob12 i13 i14 i15 = some (r, D')) : Gl p e below s 40 384 (Qw Kt1 Z n0 (some (.int r)) D') (T0.setTop (mkF m 253 #[.val (.int i0), .val (.int i1), .val (.int i2), .val (.int i3), .val (.int i4), .val (.int i5), .val (.int i6), .val (.int i7), .val (.int i8), .val (.int i9), .val (.int i10), .val (.int i11), .val (.ref (n0 + ob12)), .val (.int i13), .val (.int i14), .val (.int i15), .val (.int i16)] [])) := by
  obtain ⟨hx, hZ, hby, hml, hown, hnm, hret, hlk⟩ := id hC
  have hml : c.maxLocals = 17 := hml
  rw [b0_253] at hf
  refine Gl.on (B := T0.setTop (mkF m 254 #[.val (.int i0), .val (.int i1), .val (.int i2), .val (.int i3), .val (.int i4), .val (.int i5), .val (.int i6), .val (.int i7), .val (.int i8), .val (.int i9), .val (.int i10), .val (.int i11), .val (.ref (n0 + ob12)), .val (.int i13), .val (.int i14), .val (.int i15), .val (.int i16)] [(.int (0 : Int32))])) (fun t k => ?_) ?_
  · show Steps p.tables e below (T0.setTop (mkF m 253 #[.val (.int i0), .val (.int i1), .val (.int i2), .val (.int i3), .val (.int i4), .val (.int i5), .val (.int i6), .val (.int i7), .val (.int i8), .val (.int i9), .val (.int i10), .val (.int i11), .val (.ref (n0 + ob12)), .val (.int i13), .val (.int i14), .val (.int i15), .val (.int i16)] [])) _
    refine XS.iconst X0.here hx rfl (hb hby at_253) ?_
    exact k
  exact bt0_254 hw hC X0 e0 O0 N0 (by omega) (by omega) hf
def b0_232 (D : Hp) (i11 : Int32) (ob12 : Nat) (i13 : Int32) (i14 : Int32) (i15 : Int32) (t0 : Int32) : Option (Int32 × Hp) :=
  if t0 = (0 : Int32) then (b0_253 D i11 ob12 i13 i14 i15) else ((ck D ob12 1).bind fun u36 => (f15 D ob12).bind fun q35 => own_let q35.1 fun x37 => own_let q35.2 fun D35 =>
  if x37 = i15 then (b0_254 D35 i11 ob12 i13 i14 i15 (1 : Int32)) else (b0_253 D35 i11 ob12 i13 i14 i15))
set_option maxRecDepth 65536 in
set_option maxHeartbeats 40000000 in
theorem bt0_232 {p : Program} {l : Launch} {e : Env} {s : State} {m : MethodId} {args : Array Value} {below : List Frame} {meth : Method} {c : Code} {Z : State} {a0 : Array Value} {n0 : Nat} {D' : Hp} {r : Int32} {T0 : State} {locs : List Loc} {cells slots : Nat} {h0 : Heap} {D : Hp} {i0 : Int32} {i1 : Int32} {i2 : Int32} {i3 : Int32} {i4 : Int32} {i5 : Int32} {i6 : Int32} {i7 : Int32} {i8 : Int32} {i9 : Int32} {i10 : Int32} {i11 : Int32} {ob12 : Nat} {i13 : Int32} {i14 : Int32} {i15 : Int32} {t0 : Int32} (hw : ∀ d ∈ tables_1, d.before a0 Z = true) (hC : Cx p s m meth c Z code maxLocals ret "com/example/planar_drawing_kit/planardrawingkit/inspect/SweepLineSwapWithAbovePinLaw" "law") (X0 : Stand p l e room_1 s m args below meth c T0 locs cells slots) (e0 : T0.heap = h0) (O0 : Ow Kt1 Z h0 n0 D) (N0 : Fr n0 locs) (hcc : cells ≤ 30) (hss : slots ≤ 354) (hf : b0_232 D i11 ob12 i13 i14 i15 t0 = some (r, D')) : Gl p e below s 40 384 (Qw Kt1 Z n0 (some (.int r)) D') (T0.setTop (mkF m 232 #[.val (.int i0), .val (.int i1), .val (.int i2), .val (.int i3), .val (.int i4), .val (.int i5), .val (.int i6), .val (.int i7), .val (.int i8), .val (.int i9), .val (.int i10), .val (.int i11), .val (.ref (n0 + ob12)), .val (.int i13), .val (.int i14), .val (.int i15), .unset] [(.int t0)])) := by
  obtain ⟨hx, hZ, hby, hml, hown, hnm, hret, hlk⟩ := id hC
  have hml : c.maxLocals = 17 := hml
  rw [b0_232] at hf
  refine Gl.on (B := T0.setTop (mkF m 236 #[.val (.int i0), .val (.int i1), .val (.int i2), .val (.int i3), .val (.int i4), .val (.int i5), .val (.int i6), .val (.int i7), .val (.int i8), .val (.int i9), .val (.int i10), .val (.int i11), .val (.ref (n0 + ob12)), .val (.int i13), .val (.int i14), .val (.int i15), .val (.int t0)] [(.int t0)])) (fun t k => ?_) ?_
  · show Steps p.tables e below (T0.setTop (mkF m 232 #[.val (.int i0), .val (.int i1), .val (.int i2), .val (.int i3), .val (.int i4), .val (.int i5), .val (.int i6), .val (.int i7), .val (.int i8), .val (.int i9), .val (.int i10), .val (.int i11), .val (.ref (n0 + ob12)), .val (.int i13), .val (.int i14), .val (.int i15), .unset] [(.int t0)])) _
    refine XS.istore X0.here hx rfl (hb hby at_232) rfl (l' := #[.val (.int i0), .val (.int i1), .val (.int i2), .val (.int i3), .val (.int i4), .val (.int i5), .val (.int i6), .val (.int i7), .val (.int i8), .val (.int i9), .val (.int i10), .val (.int i11), .val (.ref (n0 + ob12)), .val (.int i13), .val (.int i14), .val (.int i15), .val (.int t0)]) rfl ?_
    show Steps p.tables e below (T0.setTop (mkF m 234 #[.val (.int i0), .val (.int i1), .val (.int i2), .val (.int i3), .val (.int i4), .val (.int i5), .val (.int i6), .val (.int i7), .val (.int i8), .val (.int i9), .val (.int i10), .val (.int i11), .val (.ref (n0 + ob12)), .val (.int i13), .val (.int i14), .val (.int i15), .val (.int t0)] [])) _
    refine XS.iload X0.here hx rfl (hb hby at_234) rfl ?_
    exact k
  by_cases hc34 : t0 = (0 : Int32)
  · rw [if_pos hc34] at hf
    refine Gl.on (B := T0.setTop (mkF m 253 #[.val (.int i0), .val (.int i1), .val (.int i2), .val (.int i3), .val (.int i4), .val (.int i5), .val (.int i6), .val (.int i7), .val (.int i8), .val (.int i9), .val (.int i10), .val (.int i11), .val (.ref (n0 + ob12)), .val (.int i13), .val (.int i14), .val (.int i15), .val (.int t0)] [])) (fun t k => ?_) ?_
    · show Steps p.tables e below (T0.setTop (mkF m 236 #[.val (.int i0), .val (.int i1), .val (.int i2), .val (.int i3), .val (.int i4), .val (.int i5), .val (.int i6), .val (.int i7), .val (.int i8), .val (.int i9), .val (.int i10), .val (.int i11), .val (.ref (n0 + ob12)), .val (.int i13), .val (.int i14), .val (.int i15), .val (.int t0)] [(.int t0)])) _
      refine XS.ifYes X0.here hx rfl (pc0 := 236) (pc' := 253) rfl (hb hby at_236) rfl ((if0 _ _).trans (teq hc34).1) (by decide) (by decide) ?_
      exact k
    exact bt0_253 hw hC X0 e0 O0 N0 (by omega) (by omega) hf
  · rw [if_neg hc34] at hf
    obtain ⟨u36, hk35, hf⟩ := own_bind hf
    obtain ⟨⟨x37, D35⟩, hq35, hf⟩ := own_bind hf
    obtain ⟨_, rfl, hf⟩ := own_letE hf
    obtain ⟨_, rfl, hf⟩ := own_letE hf
    obtain ⟨T35, h35, L35, X35, e35, O35, N35, st35⟩ := callVW X0 hx hZ (y := (⟨"com/example/planar_drawing_kit/planardrawingkit/inspect/SweepLine", "highest", "()I"⟩ : MethodName)) hown (hw _ (List.mem_of_getElem? (i := 93) rfl)) (hw _ (List.mem_of_getElem? (i := 94) rfl)) (hw _ (List.mem_of_getElem? (i := 96) rfl)) (hw _ (List.mem_of_getElem? (i := 95) rfl)) (hw _ (List.mem_of_getElem? (i := 3) rfl)) (hw _ (List.mem_of_getElem? (i := 97) rfl)) (by decide) e0 O0 N0 hk35 rfl (as' := []) (ct15 hw hq35) (W := 0) (kc := 0) (ks := 0) rfl rfl (by decide) (by decide) (g := (mkF m 241 #[.val (.int i0), .val (.int i1), .val (.int i2), .val (.int i3), .val (.int i4), .val (.int i5), .val (.int i6), .val (.int i7), .val (.int i8), .val (.int i9), .val (.int i10), .val (.int i11), .val (.ref (n0 + ob12)), .val (.int i13), .val (.int i14), .val (.int i15), .val (.int t0)] [(.ref (n0 + ob12))])) rfl (by rw [hml]; rfl) (rest := []) (lenOf pd_8 rfl) rfl (by show 2 * 0 + _ ≤ _; exact Nat.le_of_eq rfl) (hb hby at_241) (by show _ + 0 ≤ 40; omega) (by show _ + 0 ≤ 384; omega)
    refine Gl.on (B := T35.setTop (mkF m 246 #[.val (.int i0), .val (.int i1), .val (.int i2), .val (.int i3), .val (.int i4), .val (.int i5), .val (.int i6), .val (.int i7), .val (.int i8), .val (.int i9), .val (.int i10), .val (.int i11), .val (.ref (n0 + ob12)), .val (.int i13), .val (.int i14), .val (.int i15), .val (.int t0)] [(.int i15), (.int x37)])) (fun t k => ?_) ?_
    · show Steps p.tables e below (T0.setTop (mkF m 236 #[.val (.int i0), .val (.int i1), .val (.int i2), .val (.int i3), .val (.int i4), .val (.int i5), .val (.int i6), .val (.int i7), .val (.int i8), .val (.int i9), .val (.int i10), .val (.int i11), .val (.ref (n0 + ob12)), .val (.int i13), .val (.int i14), .val (.int i15), .val (.int t0)] [(.int t0)])) _
      refine XS.ifNo X0.here hx rfl (hb hby at_236) rfl ((if0 _ _).trans (feq hc34).1) ?_
      show Steps p.tables e below (T0.setTop (mkF m 239 #[.val (.int i0), .val (.int i1), .val (.int i2), .val (.int i3), .val (.int i4), .val (.int i5), .val (.int i6), .val (.int i7), .val (.int i8), .val (.int i9), .val (.int i10), .val (.int i11), .val (.ref (n0 + ob12)), .val (.int i13), .val (.int i14), .val (.int i15), .val (.int t0)] [])) _
      refine XS.aload X0.here hx rfl (hb hby at_239) rfl rfl ?_
      show Steps p.tables e below (T0.setTop (mkF m 241 #[.val (.int i0), .val (.int i1), .val (.int i2), .val (.int i3), .val (.int i4), .val (.int i5), .val (.int i6), .val (.int i7), .val (.int i8), .val (.int i9), .val (.int i10), .val (.int i11), .val (.ref (n0 + ob12)), .val (.int i13), .val (.int i14), .val (.int i15), .val (.int t0)] [(.ref (n0 + ob12))])) _
      refine st35 _ ?_
      show Steps p.tables e below (T35.setTop (mkF m 244 #[.val (.int i0), .val (.int i1), .val (.int i2), .val (.int i3), .val (.int i4), .val (.int i5), .val (.int i6), .val (.int i7), .val (.int i8), .val (.int i9), .val (.int i10), .val (.int i11), .val (.ref (n0 + ob12)), .val (.int i13), .val (.int i14), .val (.int i15), .val (.int t0)] [(.int x37)])) _
      refine XS.iload X35.here hx rfl (hb hby at_244) rfl ?_
      exact k
    by_cases hc38 : x37 = i15
    · rw [if_pos hc38] at hf
      refine Gl.on (B := T35.setTop (mkF m 254 #[.val (.int i0), .val (.int i1), .val (.int i2), .val (.int i3), .val (.int i4), .val (.int i5), .val (.int i6), .val (.int i7), .val (.int i8), .val (.int i9), .val (.int i10), .val (.int i11), .val (.ref (n0 + ob12)), .val (.int i13), .val (.int i14), .val (.int i15), .val (.int t0)] [(.int (1 : Int32))])) (fun t k => ?_) ?_
      · show Steps p.tables e below (T35.setTop (mkF m 246 #[.val (.int i0), .val (.int i1), .val (.int i2), .val (.int i3), .val (.int i4), .val (.int i5), .val (.int i6), .val (.int i7), .val (.int i8), .val (.int i9), .val (.int i10), .val (.int i11), .val (.ref (n0 + ob12)), .val (.int i13), .val (.int i14), .val (.int i15), .val (.int t0)] [(.int i15), (.int x37)])) _
        refine XS.icmpNo X35.here hx rfl (hb hby at_246) rfl (teq hc38).2 ?_
        show Steps p.tables e below (T35.setTop (mkF m 249 #[.val (.int i0), .val (.int i1), .val (.int i2), .val (.int i3), .val (.int i4), .val (.int i5), .val (.int i6), .val (.int i7), .val (.int i8), .val (.int i9), .val (.int i10), .val (.int i11), .val (.ref (n0 + ob12)), .val (.int i13), .val (.int i14), .val (.int i15), .val (.int t0)] [])) _
        refine XS.iconst X35.here hx rfl (hb hby at_249) ?_
        show Steps p.tables e below (T35.setTop (mkF m 250 #[.val (.int i0), .val (.int i1), .val (.int i2), .val (.int i3), .val (.int i4), .val (.int i5), .val (.int i6), .val (.int i7), .val (.int i8), .val (.int i9), .val (.int i10), .val (.int i11), .val (.ref (n0 + ob12)), .val (.int i13), .val (.int i14), .val (.int i15), .val (.int t0)] [(.int (1 : Int32))])) _
        refine XS.goto X35.here hx rfl (pc0 := 250) (pc' := 254) rfl (hb hby at_250) (by decide) (by decide) ?_
        exact k
      exact bt0_254 hw hC X35 e35 O35 N35 (by omega) (by omega) hf
    · rw [if_neg hc38] at hf
      refine Gl.on (B := T35.setTop (mkF m 253 #[.val (.int i0), .val (.int i1), .val (.int i2), .val (.int i3), .val (.int i4), .val (.int i5), .val (.int i6), .val (.int i7), .val (.int i8), .val (.int i9), .val (.int i10), .val (.int i11), .val (.ref (n0 + ob12)), .val (.int i13), .val (.int i14), .val (.int i15), .val (.int t0)] [])) (fun t k => ?_) ?_
      · show Steps p.tables e below (T35.setTop (mkF m 246 #[.val (.int i0), .val (.int i1), .val (.int i2), .val (.int i3), .val (.int i4), .val (.int i5), .val (.int i6), .val (.int i7), .val (.int i8), .val (.int i9), .val (.int i10), .val (.int i11), .val (.ref (n0 + ob12)), .val (.int i13), .val (.int i14), .val (.int i15), .val (.int t0)] [(.int i15), (.int x37)])) _
        refine XS.icmpYes X35.here hx rfl (pc0 := 246) (pc' := 253) rfl (hb hby at_246) rfl (feq hc38).2 (by decide) (by decide) ?_
        exact k
      exact bt0_253 hw hC X35 e35 O35 N35 (by omega) (by omega) hf
def b0_217 (D : Hp) (i11 : Int32) (ob12 : Nat) (i13 : Int32) (i14 : Int32) (i15 : Int32) : Option (Int32 × Hp) :=
  (ck D ob12 1).bind fun u31 => (f13 D ob12).bind fun q30 => own_let q30.1 fun x32 => own_let q30.2 fun D30 =>
  if x32 = i13 then (b0_232 D30 i11 ob12 i13 i14 i15 (1 : Int32)) else (b0_232 D30 i11 ob12 i13 i14 i15 (0 : Int32))
set_option maxRecDepth 65536 in
set_option maxHeartbeats 40000000 in
theorem bt0_217 {p : Program} {l : Launch} {e : Env} {s : State} {m : MethodId} {args : Array Value} {below : List Frame} {meth : Method} {c : Code} {Z : State} {a0 : Array Value} {n0 : Nat} {D' : Hp} {r : Int32} {T0 : State} {locs : List Loc} {cells slots : Nat} {h0 : Heap} {D : Hp} {i0 : Int32} {i1 : Int32} {i2 : Int32} {i3 : Int32} {i4 : Int32} {i5 : Int32} {i6 : Int32} {i7 : Int32} {i8 : Int32} {i9 : Int32} {i10 : Int32} {i11 : Int32} {ob12 : Nat} {i13 : Int32} {i14 : Int32} {i15 : Int32} (hw : ∀ d ∈ tables_1, d.before a0 Z = true) (hC : Cx p s m meth c Z code maxLocals ret "com/example/planar_drawing_kit/planardrawingkit/inspect/SweepLineSwapWithAbovePinLaw" "law") (X0 : Stand p l e room_1 s m args below meth c T0 locs cells slots) (e0 : T0.heap = h0) (O0 : Ow Kt1 Z h0 n0 D) (N0 : Fr n0 locs) (hcc : cells ≤ 30) (hss : slots ≤ 354) (hf : b0_217 D i11 ob12 i13 i14 i15 = some (r, D')) : Gl p e below s 40 384 (Qw Kt1 Z n0 (some (.int r)) D') (T0.setTop (mkF m 217 #[.val (.int i0), .val (.int i1), .val (.int i2), .val (.int i3), .val (.int i4), .val (.int i5), .val (.int i6), .val (.int i7), .val (.int i8), .val (.int i9), .val (.int i10), .val (.int i11), .val (.ref (n0 + ob12)), .val (.int i13), .val (.int i14), .val (.int i15), .unset] [])) := by
  obtain ⟨hx, hZ, hby, hml, hown, hnm, hret, hlk⟩ := id hC
  have hml : c.maxLocals = 17 := hml
  rw [b0_217] at hf
  obtain ⟨u31, hk30, hf⟩ := own_bind hf
  obtain ⟨⟨x32, D30⟩, hq30, hf⟩ := own_bind hf
  obtain ⟨_, rfl, hf⟩ := own_letE hf
  obtain ⟨_, rfl, hf⟩ := own_letE hf
  obtain ⟨T30, h30, L30, X30, e30, O30, N30, st30⟩ := callVW X0 hx hZ (y := (⟨"com/example/planar_drawing_kit/planardrawingkit/inspect/SweepLine", "lowest", "()I"⟩ : MethodName)) hown (hw _ (List.mem_of_getElem? (i := 84) rfl)) (hw _ (List.mem_of_getElem? (i := 85) rfl)) (hw _ (List.mem_of_getElem? (i := 87) rfl)) (hw _ (List.mem_of_getElem? (i := 86) rfl)) (hw _ (List.mem_of_getElem? (i := 3) rfl)) (hw _ (List.mem_of_getElem? (i := 88) rfl)) (by decide) e0 O0 N0 hk30 rfl (as' := []) (ct13 hw hq30) (W := 0) (kc := 0) (ks := 0) rfl rfl (by decide) (by decide) (g := (mkF m 219 #[.val (.int i0), .val (.int i1), .val (.int i2), .val (.int i3), .val (.int i4), .val (.int i5), .val (.int i6), .val (.int i7), .val (.int i8), .val (.int i9), .val (.int i10), .val (.int i11), .val (.ref (n0 + ob12)), .val (.int i13), .val (.int i14), .val (.int i15), .unset] [(.ref (n0 + ob12))])) rfl (by rw [hml]; rfl) (rest := []) (lenOf pd_8 rfl) rfl (by show 2 * 0 + _ ≤ _; exact Nat.le_of_eq rfl) (hb hby at_219) (by show _ + 0 ≤ 40; omega) (by show _ + 0 ≤ 384; omega)
  refine Gl.on (B := T30.setTop (mkF m 224 #[.val (.int i0), .val (.int i1), .val (.int i2), .val (.int i3), .val (.int i4), .val (.int i5), .val (.int i6), .val (.int i7), .val (.int i8), .val (.int i9), .val (.int i10), .val (.int i11), .val (.ref (n0 + ob12)), .val (.int i13), .val (.int i14), .val (.int i15), .unset] [(.int i13), (.int x32)])) (fun t k => ?_) ?_
  · show Steps p.tables e below (T0.setTop (mkF m 217 #[.val (.int i0), .val (.int i1), .val (.int i2), .val (.int i3), .val (.int i4), .val (.int i5), .val (.int i6), .val (.int i7), .val (.int i8), .val (.int i9), .val (.int i10), .val (.int i11), .val (.ref (n0 + ob12)), .val (.int i13), .val (.int i14), .val (.int i15), .unset] [])) _
    refine XS.aload X0.here hx rfl (hb hby at_217) rfl rfl ?_
    show Steps p.tables e below (T0.setTop (mkF m 219 #[.val (.int i0), .val (.int i1), .val (.int i2), .val (.int i3), .val (.int i4), .val (.int i5), .val (.int i6), .val (.int i7), .val (.int i8), .val (.int i9), .val (.int i10), .val (.int i11), .val (.ref (n0 + ob12)), .val (.int i13), .val (.int i14), .val (.int i15), .unset] [(.ref (n0 + ob12))])) _
    refine st30 _ ?_
    show Steps p.tables e below (T30.setTop (mkF m 222 #[.val (.int i0), .val (.int i1), .val (.int i2), .val (.int i3), .val (.int i4), .val (.int i5), .val (.int i6), .val (.int i7), .val (.int i8), .val (.int i9), .val (.int i10), .val (.int i11), .val (.ref (n0 + ob12)), .val (.int i13), .val (.int i14), .val (.int i15), .unset] [(.int x32)])) _
    refine XS.iload X30.here hx rfl (hb hby at_222) rfl ?_
    exact k
  by_cases hc33 : x32 = i13
  · rw [if_pos hc33] at hf
    refine Gl.on (B := T30.setTop (mkF m 232 #[.val (.int i0), .val (.int i1), .val (.int i2), .val (.int i3), .val (.int i4), .val (.int i5), .val (.int i6), .val (.int i7), .val (.int i8), .val (.int i9), .val (.int i10), .val (.int i11), .val (.ref (n0 + ob12)), .val (.int i13), .val (.int i14), .val (.int i15), .unset] [(.int (1 : Int32))])) (fun t k => ?_) ?_
    · show Steps p.tables e below (T30.setTop (mkF m 224 #[.val (.int i0), .val (.int i1), .val (.int i2), .val (.int i3), .val (.int i4), .val (.int i5), .val (.int i6), .val (.int i7), .val (.int i8), .val (.int i9), .val (.int i10), .val (.int i11), .val (.ref (n0 + ob12)), .val (.int i13), .val (.int i14), .val (.int i15), .unset] [(.int i13), (.int x32)])) _
      refine XS.icmpNo X30.here hx rfl (hb hby at_224) rfl (teq hc33).2 ?_
      show Steps p.tables e below (T30.setTop (mkF m 227 #[.val (.int i0), .val (.int i1), .val (.int i2), .val (.int i3), .val (.int i4), .val (.int i5), .val (.int i6), .val (.int i7), .val (.int i8), .val (.int i9), .val (.int i10), .val (.int i11), .val (.ref (n0 + ob12)), .val (.int i13), .val (.int i14), .val (.int i15), .unset] [])) _
      refine XS.iconst X30.here hx rfl (hb hby at_227) ?_
      show Steps p.tables e below (T30.setTop (mkF m 228 #[.val (.int i0), .val (.int i1), .val (.int i2), .val (.int i3), .val (.int i4), .val (.int i5), .val (.int i6), .val (.int i7), .val (.int i8), .val (.int i9), .val (.int i10), .val (.int i11), .val (.ref (n0 + ob12)), .val (.int i13), .val (.int i14), .val (.int i15), .unset] [(.int (1 : Int32))])) _
      refine XS.goto X30.here hx rfl (pc0 := 228) (pc' := 232) rfl (hb hby at_228) (by decide) (by decide) ?_
      exact k
    exact bt0_232 hw hC X30 e30 O30 N30 (by omega) (by omega) hf
  · rw [if_neg hc33] at hf
    refine Gl.on (B := T30.setTop (mkF m 232 #[.val (.int i0), .val (.int i1), .val (.int i2), .val (.int i3), .val (.int i4), .val (.int i5), .val (.int i6), .val (.int i7), .val (.int i8), .val (.int i9), .val (.int i10), .val (.int i11), .val (.ref (n0 + ob12)), .val (.int i13), .val (.int i14), .val (.int i15), .unset] [(.int (0 : Int32))])) (fun t k => ?_) ?_
    · show Steps p.tables e below (T30.setTop (mkF m 224 #[.val (.int i0), .val (.int i1), .val (.int i2), .val (.int i3), .val (.int i4), .val (.int i5), .val (.int i6), .val (.int i7), .val (.int i8), .val (.int i9), .val (.int i10), .val (.int i11), .val (.ref (n0 + ob12)), .val (.int i13), .val (.int i14), .val (.int i15), .unset] [(.int i13), (.int x32)])) _
      refine XS.icmpYes X30.here hx rfl (pc0 := 224) (pc' := 231) rfl (hb hby at_224) rfl (feq hc33).2 (by decide) (by decide) ?_
      show Steps p.tables e below (T30.setTop (mkF m 231 #[.val (.int i0), .val (.int i1), .val (.int i2), .val (.int i3), .val (.int i4), .val (.int i5), .val (.int i6), .val (.int i7), .val (.int i8), .val (.int i9), .val (.int i10), .val (.int i11), .val (.ref (n0 + ob12)), .val (.int i13), .val (.int i14), .val (.int i15), .unset] [])) _
      refine XS.iconst X30.here hx rfl (hb hby at_231) ?_
      exact k
    exact bt0_232 hw hC X30 e30 O30 N30 (by omega) (by omega) hf
def b0_174 (D : Hp) (i3 : Int32) (i7 : Int32) (i8 : Int32) (i10 : Int32) (i11 : Int32) (ob12 : Nat) : Option (Int32 × Hp) :=
  if i10 = (0 : Int32) then ((ck D ob12 1).bind fun u27 => (f12 D ob12 i3).bind fun D26 =>
  b0_217 D26 i11 ob12 i7 i3 i8) else ((ck D ob12 1).bind fun u29 => (f12 D ob12 i7).bind fun D28 =>
  b0_217 D28 i11 ob12 i3 i8 i7)
set_option maxRecDepth 65536 in
set_option maxHeartbeats 40000000 in
theorem bt0_174 {p : Program} {l : Launch} {e : Env} {s : State} {m : MethodId} {args : Array Value} {below : List Frame} {meth : Method} {c : Code} {Z : State} {a0 : Array Value} {n0 : Nat} {D' : Hp} {r : Int32} {T0 : State} {locs : List Loc} {cells slots : Nat} {h0 : Heap} {D : Hp} {i0 : Int32} {i1 : Int32} {i2 : Int32} {i3 : Int32} {i4 : Int32} {i5 : Int32} {i6 : Int32} {i7 : Int32} {i8 : Int32} {i9 : Int32} {i10 : Int32} {i11 : Int32} {ob12 : Nat} (hw : ∀ d ∈ tables_1, d.before a0 Z = true) (hC : Cx p s m meth c Z code maxLocals ret "com/example/planar_drawing_kit/planardrawingkit/inspect/SweepLineSwapWithAbovePinLaw" "law") (X0 : Stand p l e room_1 s m args below meth c T0 locs cells slots) (e0 : T0.heap = h0) (O0 : Ow Kt1 Z h0 n0 D) (N0 : Fr n0 locs) (hcc : cells ≤ 30) (hss : slots ≤ 354) (hf : b0_174 D i3 i7 i8 i10 i11 ob12 = some (r, D')) : Gl p e below s 40 384 (Qw Kt1 Z n0 (some (.int r)) D') (T0.setTop (mkF m 174 #[.val (.int i0), .val (.int i1), .val (.int i2), .val (.int i3), .val (.int i4), .val (.int i5), .val (.int i6), .val (.int i7), .val (.int i8), .val (.int i9), .val (.int i10), .val (.int i11), .val (.ref (n0 + ob12)), .unset, .unset, .unset, .unset] [])) := by
  obtain ⟨hx, hZ, hby, hml, hown, hnm, hret, hlk⟩ := id hC
  have hml : c.maxLocals = 17 := hml
  rw [b0_174] at hf
  refine Gl.on (B := T0.setTop (mkF m 176 #[.val (.int i0), .val (.int i1), .val (.int i2), .val (.int i3), .val (.int i4), .val (.int i5), .val (.int i6), .val (.int i7), .val (.int i8), .val (.int i9), .val (.int i10), .val (.int i11), .val (.ref (n0 + ob12)), .unset, .unset, .unset, .unset] [(.int i10)])) (fun t k => ?_) ?_
  · show Steps p.tables e below (T0.setTop (mkF m 174 #[.val (.int i0), .val (.int i1), .val (.int i2), .val (.int i3), .val (.int i4), .val (.int i5), .val (.int i6), .val (.int i7), .val (.int i8), .val (.int i9), .val (.int i10), .val (.int i11), .val (.ref (n0 + ob12)), .unset, .unset, .unset, .unset] [])) _
    refine XS.iload X0.here hx rfl (hb hby at_174) rfl ?_
    exact k
  by_cases hc25 : i10 = (0 : Int32)
  · rw [if_pos hc25] at hf
    obtain ⟨u27, hk26, hf⟩ := own_bind hf
    obtain ⟨D26, hq26, hf⟩ := own_bind hf
    obtain ⟨T26, h26, L26, X26, e26, O26, N26, st26⟩ := callVW X0 hx hZ (y := (⟨"com/example/planar_drawing_kit/planardrawingkit/inspect/SweepLine", "swapWithAbove", "(I)V"⟩ : MethodName)) hown (hw _ (List.mem_of_getElem? (i := 79) rfl)) (hw _ (List.mem_of_getElem? (i := 80) rfl)) (hw _ (List.mem_of_getElem? (i := 82) rfl)) (hw _ (List.mem_of_getElem? (i := 81) rfl)) (hw _ (List.mem_of_getElem? (i := 3) rfl)) (hw _ (List.mem_of_getElem? (i := 83) rfl)) (by decide) e0 O0 N0 hk26 rfl (as' := [(.int i3)]) (ct12 hw hq26) (W := 0) (kc := 0) (ks := 0) rfl rfl (by decide) (by decide) (g := (mkF m 182 #[.val (.int i0), .val (.int i1), .val (.int i2), .val (.int i3), .val (.int i4), .val (.int i5), .val (.int i6), .val (.int i7), .val (.int i8), .val (.int i9), .val (.int i10), .val (.int i11), .val (.ref (n0 + ob12)), .unset, .unset, .unset, .unset] [(.int i3), (.ref (n0 + ob12))])) rfl (by rw [hml]; rfl) (rest := []) (lenOf pd_6 rfl) rfl (by show 2 * 0 + _ ≤ _; exact Nat.le_of_eq rfl) (hb hby at_182) (by show _ + 0 ≤ 40; omega) (by show _ + 0 ≤ 384; omega)
    refine Gl.on (B := T26.setTop (mkF m 217 #[.val (.int i0), .val (.int i1), .val (.int i2), .val (.int i3), .val (.int i4), .val (.int i5), .val (.int i6), .val (.int i7), .val (.int i8), .val (.int i9), .val (.int i10), .val (.int i11), .val (.ref (n0 + ob12)), .val (.int i7), .val (.int i3), .val (.int i8), .unset] [])) (fun t k => ?_) ?_
    · show Steps p.tables e below (T0.setTop (mkF m 176 #[.val (.int i0), .val (.int i1), .val (.int i2), .val (.int i3), .val (.int i4), .val (.int i5), .val (.int i6), .val (.int i7), .val (.int i8), .val (.int i9), .val (.int i10), .val (.int i11), .val (.ref (n0 + ob12)), .unset, .unset, .unset, .unset] [(.int i10)])) _
      refine XS.ifNo X0.here hx rfl (hb hby at_176) rfl ((if0 _ _).trans (teq hc25).2) ?_
      show Steps p.tables e below (T0.setTop (mkF m 179 #[.val (.int i0), .val (.int i1), .val (.int i2), .val (.int i3), .val (.int i4), .val (.int i5), .val (.int i6), .val (.int i7), .val (.int i8), .val (.int i9), .val (.int i10), .val (.int i11), .val (.ref (n0 + ob12)), .unset, .unset, .unset, .unset] [])) _
      refine XS.aload X0.here hx rfl (hb hby at_179) rfl rfl ?_
      show Steps p.tables e below (T0.setTop (mkF m 181 #[.val (.int i0), .val (.int i1), .val (.int i2), .val (.int i3), .val (.int i4), .val (.int i5), .val (.int i6), .val (.int i7), .val (.int i8), .val (.int i9), .val (.int i10), .val (.int i11), .val (.ref (n0 + ob12)), .unset, .unset, .unset, .unset] [(.ref (n0 + ob12))])) _
      refine XS.iloadN X0.here hx rfl (hb hby at_181) rfl ?_
      show Steps p.tables e below (T0.setTop (mkF m 182 #[.val (.int i0), .val (.int i1), .val (.int i2), .val (.int i3), .val (.int i4), .val (.int i5), .val (.int i6), .val (.int i7), .val (.int i8), .val (.int i9), .val (.int i10), .val (.int i11), .val (.ref (n0 + ob12)), .unset, .unset, .unset, .unset] [(.int i3), (.ref (n0 + ob12))])) _
      refine st26 _ ?_
      show Steps p.tables e below (T26.setTop (mkF m 185 #[.val (.int i0), .val (.int i1), .val (.int i2), .val (.int i3), .val (.int i4), .val (.int i5), .val (.int i6), .val (.int i7), .val (.int i8), .val (.int i9), .val (.int i10), .val (.int i11), .val (.ref (n0 + ob12)), .unset, .unset, .unset, .unset] [])) _
      refine XS.iload X26.here hx rfl (hb hby at_185) rfl ?_
      show Steps p.tables e below (T26.setTop (mkF m 187 #[.val (.int i0), .val (.int i1), .val (.int i2), .val (.int i3), .val (.int i4), .val (.int i5), .val (.int i6), .val (.int i7), .val (.int i8), .val (.int i9), .val (.int i10), .val (.int i11), .val (.ref (n0 + ob12)), .unset, .unset, .unset, .unset] [(.int i7)])) _
      refine XS.istore X26.here hx rfl (hb hby at_187) rfl (l' := #[.val (.int i0), .val (.int i1), .val (.int i2), .val (.int i3), .val (.int i4), .val (.int i5), .val (.int i6), .val (.int i7), .val (.int i8), .val (.int i9), .val (.int i10), .val (.int i11), .val (.ref (n0 + ob12)), .val (.int i7), .unset, .unset, .unset]) rfl ?_
      show Steps p.tables e below (T26.setTop (mkF m 189 #[.val (.int i0), .val (.int i1), .val (.int i2), .val (.int i3), .val (.int i4), .val (.int i5), .val (.int i6), .val (.int i7), .val (.int i8), .val (.int i9), .val (.int i10), .val (.int i11), .val (.ref (n0 + ob12)), .val (.int i7), .unset, .unset, .unset] [])) _
      refine XS.iloadN X26.here hx rfl (hb hby at_189) rfl ?_
      show Steps p.tables e below (T26.setTop (mkF m 190 #[.val (.int i0), .val (.int i1), .val (.int i2), .val (.int i3), .val (.int i4), .val (.int i5), .val (.int i6), .val (.int i7), .val (.int i8), .val (.int i9), .val (.int i10), .val (.int i11), .val (.ref (n0 + ob12)), .val (.int i7), .unset, .unset, .unset] [(.int i3)])) _
      refine XS.istore X26.here hx rfl (hb hby at_190) rfl (l' := #[.val (.int i0), .val (.int i1), .val (.int i2), .val (.int i3), .val (.int i4), .val (.int i5), .val (.int i6), .val (.int i7), .val (.int i8), .val (.int i9), .val (.int i10), .val (.int i11), .val (.ref (n0 + ob12)), .val (.int i7), .val (.int i3), .unset, .unset]) rfl ?_
      show Steps p.tables e below (T26.setTop (mkF m 192 #[.val (.int i0), .val (.int i1), .val (.int i2), .val (.int i3), .val (.int i4), .val (.int i5), .val (.int i6), .val (.int i7), .val (.int i8), .val (.int i9), .val (.int i10), .val (.int i11), .val (.ref (n0 + ob12)), .val (.int i7), .val (.int i3), .unset, .unset] [])) _
      refine XS.iload X26.here hx rfl (hb hby at_192) rfl ?_
      show Steps p.tables e below (T26.setTop (mkF m 194 #[.val (.int i0), .val (.int i1), .val (.int i2), .val (.int i3), .val (.int i4), .val (.int i5), .val (.int i6), .val (.int i7), .val (.int i8), .val (.int i9), .val (.int i10), .val (.int i11), .val (.ref (n0 + ob12)), .val (.int i7), .val (.int i3), .unset, .unset] [(.int i8)])) _
      refine XS.istore X26.here hx rfl (hb hby at_194) rfl (l' := #[.val (.int i0), .val (.int i1), .val (.int i2), .val (.int i3), .val (.int i4), .val (.int i5), .val (.int i6), .val (.int i7), .val (.int i8), .val (.int i9), .val (.int i10), .val (.int i11), .val (.ref (n0 + ob12)), .val (.int i7), .val (.int i3), .val (.int i8), .unset]) rfl ?_
      show Steps p.tables e below (T26.setTop (mkF m 196 #[.val (.int i0), .val (.int i1), .val (.int i2), .val (.int i3), .val (.int i4), .val (.int i5), .val (.int i6), .val (.int i7), .val (.int i8), .val (.int i9), .val (.int i10), .val (.int i11), .val (.ref (n0 + ob12)), .val (.int i7), .val (.int i3), .val (.int i8), .unset] [])) _
      refine XS.goto X26.here hx rfl (pc0 := 196) (pc' := 217) rfl (hb hby at_196) (by decide) (by decide) ?_
      exact k
    exact bt0_217 hw hC X26 e26 O26 N26 (by omega) (by omega) hf
  · rw [if_neg hc25] at hf
    obtain ⟨u29, hk28, hf⟩ := own_bind hf
    obtain ⟨D28, hq28, hf⟩ := own_bind hf
    obtain ⟨T28, h28, L28, X28, e28, O28, N28, st28⟩ := callVW X0 hx hZ (y := (⟨"com/example/planar_drawing_kit/planardrawingkit/inspect/SweepLine", "swapWithAbove", "(I)V"⟩ : MethodName)) hown (hw _ (List.mem_of_getElem? (i := 79) rfl)) (hw _ (List.mem_of_getElem? (i := 80) rfl)) (hw _ (List.mem_of_getElem? (i := 82) rfl)) (hw _ (List.mem_of_getElem? (i := 81) rfl)) (hw _ (List.mem_of_getElem? (i := 3) rfl)) (hw _ (List.mem_of_getElem? (i := 83) rfl)) (by decide) e0 O0 N0 hk28 rfl (as' := [(.int i7)]) (ct12 hw hq28) (W := 0) (kc := 0) (ks := 0) rfl rfl (by decide) (by decide) (g := (mkF m 203 #[.val (.int i0), .val (.int i1), .val (.int i2), .val (.int i3), .val (.int i4), .val (.int i5), .val (.int i6), .val (.int i7), .val (.int i8), .val (.int i9), .val (.int i10), .val (.int i11), .val (.ref (n0 + ob12)), .unset, .unset, .unset, .unset] [(.int i7), (.ref (n0 + ob12))])) rfl (by rw [hml]; rfl) (rest := []) (lenOf pd_6 rfl) rfl (by show 2 * 0 + _ ≤ _; exact Nat.le_of_eq rfl) (hb hby at_203) (by show _ + 0 ≤ 40; omega) (by show _ + 0 ≤ 384; omega)
    refine Gl.on (B := T28.setTop (mkF m 217 #[.val (.int i0), .val (.int i1), .val (.int i2), .val (.int i3), .val (.int i4), .val (.int i5), .val (.int i6), .val (.int i7), .val (.int i8), .val (.int i9), .val (.int i10), .val (.int i11), .val (.ref (n0 + ob12)), .val (.int i3), .val (.int i8), .val (.int i7), .unset] [])) (fun t k => ?_) ?_
    · show Steps p.tables e below (T0.setTop (mkF m 176 #[.val (.int i0), .val (.int i1), .val (.int i2), .val (.int i3), .val (.int i4), .val (.int i5), .val (.int i6), .val (.int i7), .val (.int i8), .val (.int i9), .val (.int i10), .val (.int i11), .val (.ref (n0 + ob12)), .unset, .unset, .unset, .unset] [(.int i10)])) _
      refine XS.ifYes X0.here hx rfl (pc0 := 176) (pc' := 199) rfl (hb hby at_176) rfl ((if0 _ _).trans (feq hc25).2) (by decide) (by decide) ?_
      show Steps p.tables e below (T0.setTop (mkF m 199 #[.val (.int i0), .val (.int i1), .val (.int i2), .val (.int i3), .val (.int i4), .val (.int i5), .val (.int i6), .val (.int i7), .val (.int i8), .val (.int i9), .val (.int i10), .val (.int i11), .val (.ref (n0 + ob12)), .unset, .unset, .unset, .unset] [])) _
      refine XS.aload X0.here hx rfl (hb hby at_199) rfl rfl ?_
      show Steps p.tables e below (T0.setTop (mkF m 201 #[.val (.int i0), .val (.int i1), .val (.int i2), .val (.int i3), .val (.int i4), .val (.int i5), .val (.int i6), .val (.int i7), .val (.int i8), .val (.int i9), .val (.int i10), .val (.int i11), .val (.ref (n0 + ob12)), .unset, .unset, .unset, .unset] [(.ref (n0 + ob12))])) _
      refine XS.iload X0.here hx rfl (hb hby at_201) rfl ?_
      show Steps p.tables e below (T0.setTop (mkF m 203 #[.val (.int i0), .val (.int i1), .val (.int i2), .val (.int i3), .val (.int i4), .val (.int i5), .val (.int i6), .val (.int i7), .val (.int i8), .val (.int i9), .val (.int i10), .val (.int i11), .val (.ref (n0 + ob12)), .unset, .unset, .unset, .unset] [(.int i7), (.ref (n0 + ob12))])) _
      refine st28 _ ?_
      show Steps p.tables e below (T28.setTop (mkF m 206 #[.val (.int i0), .val (.int i1), .val (.int i2), .val (.int i3), .val (.int i4), .val (.int i5), .val (.int i6), .val (.int i7), .val (.int i8), .val (.int i9), .val (.int i10), .val (.int i11), .val (.ref (n0 + ob12)), .unset, .unset, .unset, .unset] [])) _
      refine XS.iloadN X28.here hx rfl (hb hby at_206) rfl ?_
      show Steps p.tables e below (T28.setTop (mkF m 207 #[.val (.int i0), .val (.int i1), .val (.int i2), .val (.int i3), .val (.int i4), .val (.int i5), .val (.int i6), .val (.int i7), .val (.int i8), .val (.int i9), .val (.int i10), .val (.int i11), .val (.ref (n0 + ob12)), .unset, .unset, .unset, .unset] [(.int i3)])) _
      refine XS.istore X28.here hx rfl (hb hby at_207) rfl (l' := #[.val (.int i0), .val (.int i1), .val (.int i2), .val (.int i3), .val (.int i4), .val (.int i5), .val (.int i6), .val (.int i7), .val (.int i8), .val (.int i9), .val (.int i10), .val (.int i11), .val (.ref (n0 + ob12)), .val (.int i3), .unset, .unset, .unset]) rfl ?_
      show Steps p.tables e below (T28.setTop (mkF m 209 #[.val (.int i0), .val (.int i1), .val (.int i2), .val (.int i3), .val (.int i4), .val (.int i5), .val (.int i6), .val (.int i7), .val (.int i8), .val (.int i9), .val (.int i10), .val (.int i11), .val (.ref (n0 + ob12)), .val (.int i3), .unset, .unset, .unset] [])) _
      refine XS.iload X28.here hx rfl (hb hby at_209) rfl ?_
      show Steps p.tables e below (T28.setTop (mkF m 211 #[.val (.int i0), .val (.int i1), .val (.int i2), .val (.int i3), .val (.int i4), .val (.int i5), .val (.int i6), .val (.int i7), .val (.int i8), .val (.int i9), .val (.int i10), .val (.int i11), .val (.ref (n0 + ob12)), .val (.int i3), .unset, .unset, .unset] [(.int i8)])) _
      refine XS.istore X28.here hx rfl (hb hby at_211) rfl (l' := #[.val (.int i0), .val (.int i1), .val (.int i2), .val (.int i3), .val (.int i4), .val (.int i5), .val (.int i6), .val (.int i7), .val (.int i8), .val (.int i9), .val (.int i10), .val (.int i11), .val (.ref (n0 + ob12)), .val (.int i3), .val (.int i8), .unset, .unset]) rfl ?_
      show Steps p.tables e below (T28.setTop (mkF m 213 #[.val (.int i0), .val (.int i1), .val (.int i2), .val (.int i3), .val (.int i4), .val (.int i5), .val (.int i6), .val (.int i7), .val (.int i8), .val (.int i9), .val (.int i10), .val (.int i11), .val (.ref (n0 + ob12)), .val (.int i3), .val (.int i8), .unset, .unset] [])) _
      refine XS.iload X28.here hx rfl (hb hby at_213) rfl ?_
      show Steps p.tables e below (T28.setTop (mkF m 215 #[.val (.int i0), .val (.int i1), .val (.int i2), .val (.int i3), .val (.int i4), .val (.int i5), .val (.int i6), .val (.int i7), .val (.int i8), .val (.int i9), .val (.int i10), .val (.int i11), .val (.ref (n0 + ob12)), .val (.int i3), .val (.int i8), .unset, .unset] [(.int i7)])) _
      refine XS.istore X28.here hx rfl (hb hby at_215) rfl (l' := #[.val (.int i0), .val (.int i1), .val (.int i2), .val (.int i3), .val (.int i4), .val (.int i5), .val (.int i6), .val (.int i7), .val (.int i8), .val (.int i9), .val (.int i10), .val (.int i11), .val (.ref (n0 + ob12)), .val (.int i3), .val (.int i8), .val (.int i7), .unset]) rfl ?_
      exact k
    exact bt0_217 hw hC X28 e28 O28 N28 (by omega) (by omega) hf
def b0_100 (D : Hp) (i3 : Int32) (i7 : Int32) (i8 : Int32) (i9 : Int32) (t0 : Int32) : Option (Int32 × Hp) :=
  own_let (D.length) fun a10 => own_let (D ++ [(1, [.null, .null, .null, .null, .null, .null, .null, (.int (0 : Int32)), (.int (0 : Int32)), (.int (0 : Int32)), (.int (0 : Int32)), (.int (0 : Int32)), .null, (.int (0 : Int32))])]) fun D10 =>
  (f1 D10 a10 (3 : Int32)).bind fun D11 =>
  if i9 = (0 : Int32) then ((ck D11 a10 1).bind fun u14 => (f4 D11 a10 (-1 : Int32) i3).bind fun D13 =>
  (ck D13 a10 1).bind fun u16 => (f4 D13 a10 i3 i7).bind fun D15 =>
  (ck D15 a10 1).bind fun u18 => (f4 D15 a10 i7 i8).bind fun D17 =>
  b0_174 D17 i3 i7 i8 t0 (-1 : Int32) a10) else ((ck D11 a10 1).bind fun u20 => (f4 D11 a10 (-1 : Int32) i8).bind fun D19 =>
  (ck D19 a10 1).bind fun u22 => (f4 D19 a10 (-1 : Int32) i7).bind fun D21 =>
  (ck D21 a10 1).bind fun u24 => (f4 D21 a10 (-1 : Int32) i3).bind fun D23 =>
  b0_174 D23 i3 i7 i8 t0 (-1 : Int32) a10)
set_option maxRecDepth 65536 in
set_option maxHeartbeats 40000000 in
theorem bt0_100 {p : Program} {l : Launch} {e : Env} {s : State} {m : MethodId} {args : Array Value} {below : List Frame} {meth : Method} {c : Code} {Z : State} {a0 : Array Value} {n0 : Nat} {D' : Hp} {r : Int32} {T0 : State} {locs : List Loc} {cells slots : Nat} {h0 : Heap} {D : Hp} {i0 : Int32} {i1 : Int32} {i2 : Int32} {i3 : Int32} {i4 : Int32} {i5 : Int32} {i6 : Int32} {i7 : Int32} {i8 : Int32} {i9 : Int32} {t0 : Int32} (hw : ∀ d ∈ tables_1, d.before a0 Z = true) (hC : Cx p s m meth c Z code maxLocals ret "com/example/planar_drawing_kit/planardrawingkit/inspect/SweepLineSwapWithAbovePinLaw" "law") (X0 : Stand p l e room_1 s m args below meth c T0 locs cells slots) (e0 : T0.heap = h0) (O0 : Ow Kt1 Z h0 n0 D) (N0 : Fr n0 locs) (hcc : cells ≤ 0) (hss : slots ≤ 0) (hf : b0_100 D i3 i7 i8 i9 t0 = some (r, D')) : Gl p e below s 40 384 (Qw Kt1 Z n0 (some (.int r)) D') (T0.setTop (mkF m 100 #[.val (.int i0), .val (.int i1), .val (.int i2), .val (.int i3), .val (.int i4), .val (.int i5), .val (.int i6), .val (.int i7), .val (.int i8), .val (.int i9), .unset, .unset, .unset, .unset, .unset, .unset, .unset] [(.int t0)])) := by
  obtain ⟨hx, hZ, hby, hml, hown, hnm, hret, hlk⟩ := id hC
  have hml : c.maxLocals = 17 := hml
  rw [b0_100] at hf
  obtain ⟨a10, ha10, hf⟩ := own_letE hf
  obtain ⟨D10, hD10, hf⟩ := own_letE hf
  obtain ⟨T10, h10, X10, e10, O10, st10⟩ := newW X0 hx hZ hown (hw _ (List.mem_of_getElem? (i := 1) rfl)) (hw _ (List.mem_of_getElem? (i := 2) rfl)) (hw _ (List.mem_of_getElem? (i := 3) rfl)) (lay1 hw) e0 O0 (t := 1) rfl (ds := [.null, .null, .null, .null, .null, .null, .null, (.int (0 : Int32)), (.int (0 : Int32)), (.int (0 : Int32)), (.int (0 : Int32)), (.int (0 : Int32)), .null, (.int (0 : Int32))]) (by decide) (g := (mkF m 105 #[.val (.int i0), .val (.int i1), .val (.int i2), .val (.int i3), .val (.int i4), .val (.int i5), .val (.int i6), .val (.int i7), .val (.int i8), .val (.int i9), .val (.int t0), .val (.int (-1 : Int32)), .unset, .unset, .unset, .unset, .unset] [])) rfl (hb hby at_105) (by show _ + 1 ≤ 40; omega) (by show _ + 14 ≤ 384; omega)
  rw [ha10] at st10
  rw [hD10] at O10
  obtain ⟨D11, hq11, hf⟩ := own_bind hf
  obtain ⟨T11, h11, L11, X11, e11, O11, N11, st11⟩ := callIW X10 hx hZ (y := (⟨"com/example/planar_drawing_kit/planardrawingkit/inspect/SweepLine", "<init>", "(I)V"⟩ : MethodName)) rfl hown (hw _ (List.mem_of_getElem? (i := 4) rfl)) (hw _ (List.mem_of_getElem? (i := 5) rfl)) (hw _ (List.mem_of_getElem? (i := 3) rfl)) (hw _ (List.mem_of_getElem? (i := 6) rfl)) (by decide) e10 O10 N0 (as' := [(.int (3 : Int32))]) (ct1 hw hq11) (W := 1) (kc := 8) (ks := 4) rfl rfl (by decide) (by decide) (g := (mkF m 110 #[.val (.int i0), .val (.int i1), .val (.int i2), .val (.int i3), .val (.int i4), .val (.int i5), .val (.int i6), .val (.int i7), .val (.int i8), .val (.int i9), .val (.int t0), .val (.int (-1 : Int32)), .unset, .unset, .unset, .unset, .unset] [(.int (3 : Int32)), (.ref (n0 + a10)), (.ref (n0 + a10))])) rfl (by rw [hml]; rfl) (rest := [(.ref (n0 + a10))]) (lenOf pd_6 rfl) rfl (by show 2 * 0 + _ ≤ _; exact Nat.le_of_eq rfl) (hb hby at_110) (by show _ + 8 ≤ 40; omega) (by show _ + 4 ≤ 384; omega)
  refine Gl.on (B := T11.setTop (mkF m 117 #[.val (.int i0), .val (.int i1), .val (.int i2), .val (.int i3), .val (.int i4), .val (.int i5), .val (.int i6), .val (.int i7), .val (.int i8), .val (.int i9), .val (.int t0), .val (.int (-1 : Int32)), .val (.ref (n0 + a10)), .unset, .unset, .unset, .unset] [(.int i9)])) (fun t k => ?_) ?_
  · show Steps p.tables e below (T0.setTop (mkF m 100 #[.val (.int i0), .val (.int i1), .val (.int i2), .val (.int i3), .val (.int i4), .val (.int i5), .val (.int i6), .val (.int i7), .val (.int i8), .val (.int i9), .unset, .unset, .unset, .unset, .unset, .unset, .unset] [(.int t0)])) _
    refine XS.istore X0.here hx rfl (hb hby at_100) rfl (l' := #[.val (.int i0), .val (.int i1), .val (.int i2), .val (.int i3), .val (.int i4), .val (.int i5), .val (.int i6), .val (.int i7), .val (.int i8), .val (.int i9), .val (.int t0), .unset, .unset, .unset, .unset, .unset, .unset]) rfl ?_
    show Steps p.tables e below (T0.setTop (mkF m 102 #[.val (.int i0), .val (.int i1), .val (.int i2), .val (.int i3), .val (.int i4), .val (.int i5), .val (.int i6), .val (.int i7), .val (.int i8), .val (.int i9), .val (.int t0), .unset, .unset, .unset, .unset, .unset, .unset] [])) _
    refine XS.iconst X0.here hx rfl (hb hby at_102) ?_
    show Steps p.tables e below (T0.setTop (mkF m 103 #[.val (.int i0), .val (.int i1), .val (.int i2), .val (.int i3), .val (.int i4), .val (.int i5), .val (.int i6), .val (.int i7), .val (.int i8), .val (.int i9), .val (.int t0), .unset, .unset, .unset, .unset, .unset, .unset] [(.int (-1 : Int32))])) _
    refine XS.istore X0.here hx rfl (hb hby at_103) rfl (l' := #[.val (.int i0), .val (.int i1), .val (.int i2), .val (.int i3), .val (.int i4), .val (.int i5), .val (.int i6), .val (.int i7), .val (.int i8), .val (.int i9), .val (.int t0), .val (.int (-1 : Int32)), .unset, .unset, .unset, .unset, .unset]) rfl ?_
    show Steps p.tables e below (T0.setTop (mkF m 105 #[.val (.int i0), .val (.int i1), .val (.int i2), .val (.int i3), .val (.int i4), .val (.int i5), .val (.int i6), .val (.int i7), .val (.int i8), .val (.int i9), .val (.int t0), .val (.int (-1 : Int32)), .unset, .unset, .unset, .unset, .unset] [])) _
    refine st10 _ ?_
    show Steps p.tables e below (T10.setTop (mkF m 108 #[.val (.int i0), .val (.int i1), .val (.int i2), .val (.int i3), .val (.int i4), .val (.int i5), .val (.int i6), .val (.int i7), .val (.int i8), .val (.int i9), .val (.int t0), .val (.int (-1 : Int32)), .unset, .unset, .unset, .unset, .unset] [(.ref (n0 + a10))])) _
    refine XS.dup X10.here hx rfl (hb hby at_108) rfl rfl ?_
    show Steps p.tables e below (T10.setTop (mkF m 109 #[.val (.int i0), .val (.int i1), .val (.int i2), .val (.int i3), .val (.int i4), .val (.int i5), .val (.int i6), .val (.int i7), .val (.int i8), .val (.int i9), .val (.int t0), .val (.int (-1 : Int32)), .unset, .unset, .unset, .unset, .unset] [(.ref (n0 + a10)), (.ref (n0 + a10))])) _
    refine XS.iconst X10.here hx rfl (hb hby at_109) ?_
    show Steps p.tables e below (T10.setTop (mkF m 110 #[.val (.int i0), .val (.int i1), .val (.int i2), .val (.int i3), .val (.int i4), .val (.int i5), .val (.int i6), .val (.int i7), .val (.int i8), .val (.int i9), .val (.int t0), .val (.int (-1 : Int32)), .unset, .unset, .unset, .unset, .unset] [(.int (3 : Int32)), (.ref (n0 + a10)), (.ref (n0 + a10))])) _
    refine st11 _ ?_
    show Steps p.tables e below (T11.setTop (mkF m 113 #[.val (.int i0), .val (.int i1), .val (.int i2), .val (.int i3), .val (.int i4), .val (.int i5), .val (.int i6), .val (.int i7), .val (.int i8), .val (.int i9), .val (.int t0), .val (.int (-1 : Int32)), .unset, .unset, .unset, .unset, .unset] [(.ref (n0 + a10))])) _
    refine XS.astore X11.here hx rfl (hb hby at_113) rfl rfl (l' := #[.val (.int i0), .val (.int i1), .val (.int i2), .val (.int i3), .val (.int i4), .val (.int i5), .val (.int i6), .val (.int i7), .val (.int i8), .val (.int i9), .val (.int t0), .val (.int (-1 : Int32)), .val (.ref (n0 + a10)), .unset, .unset, .unset, .unset]) rfl ?_
    show Steps p.tables e below (T11.setTop (mkF m 115 #[.val (.int i0), .val (.int i1), .val (.int i2), .val (.int i3), .val (.int i4), .val (.int i5), .val (.int i6), .val (.int i7), .val (.int i8), .val (.int i9), .val (.int t0), .val (.int (-1 : Int32)), .val (.ref (n0 + a10)), .unset, .unset, .unset, .unset] [])) _
    refine XS.iload X11.here hx rfl (hb hby at_115) rfl ?_
    exact k
  by_cases hc12 : i9 = (0 : Int32)
  · rw [if_pos hc12] at hf
    obtain ⟨u14, hk13, hf⟩ := own_bind hf
    obtain ⟨D13, hq13, hf⟩ := own_bind hf
    obtain ⟨T13, h13, L13, X13, e13, O13, N13, st13⟩ := callVW X11 hx hZ (y := (⟨"com/example/planar_drawing_kit/planardrawingkit/inspect/SweepLine", "insertAbove", "(II)V"⟩ : MethodName)) hown (hw _ (List.mem_of_getElem? (i := 42) rfl)) (hw _ (List.mem_of_getElem? (i := 43) rfl)) (hw _ (List.mem_of_getElem? (i := 45) rfl)) (hw _ (List.mem_of_getElem? (i := 44) rfl)) (hw _ (List.mem_of_getElem? (i := 3) rfl)) (hw _ (List.mem_of_getElem? (i := 46) rfl)) (by decide) e11 O11 N11 hk13 rfl (as' := [(.int (-1 : Int32)), (.int i3)]) (ct4 hw hq13) (W := 0) (kc := 7) (ks := 112) rfl rfl (by decide) (by decide) (g := (mkF m 125 #[.val (.int i0), .val (.int i1), .val (.int i2), .val (.int i3), .val (.int i4), .val (.int i5), .val (.int i6), .val (.int i7), .val (.int i8), .val (.int i9), .val (.int t0), .val (.int (-1 : Int32)), .val (.ref (n0 + a10)), .unset, .unset, .unset, .unset] [(.int i3), (.int (-1 : Int32)), (.ref (n0 + a10))])) rfl (by rw [hml]; rfl) (rest := []) (lenOf pd_7 rfl) rfl (by show 2 * 0 + _ ≤ _; exact Nat.le_of_eq rfl) (hb hby at_125) (by show _ + 7 ≤ 40; omega) (by show _ + 112 ≤ 384; omega)
    obtain ⟨u16, hk15, hf⟩ := own_bind hf
    obtain ⟨D15, hq15, hf⟩ := own_bind hf
    obtain ⟨T15, h15, L15, X15, e15, O15, N15, st15⟩ := callVW X13 hx hZ (y := (⟨"com/example/planar_drawing_kit/planardrawingkit/inspect/SweepLine", "insertAbove", "(II)V"⟩ : MethodName)) hown (hw _ (List.mem_of_getElem? (i := 42) rfl)) (hw _ (List.mem_of_getElem? (i := 43) rfl)) (hw _ (List.mem_of_getElem? (i := 45) rfl)) (hw _ (List.mem_of_getElem? (i := 44) rfl)) (hw _ (List.mem_of_getElem? (i := 3) rfl)) (hw _ (List.mem_of_getElem? (i := 46) rfl)) (by decide) e13 O13 N13 hk15 rfl (as' := [(.int i3), (.int i7)]) (ct4 hw hq15) (W := 0) (kc := 7) (ks := 112) rfl rfl (by decide) (by decide) (g := (mkF m 133 #[.val (.int i0), .val (.int i1), .val (.int i2), .val (.int i3), .val (.int i4), .val (.int i5), .val (.int i6), .val (.int i7), .val (.int i8), .val (.int i9), .val (.int t0), .val (.int (-1 : Int32)), .val (.ref (n0 + a10)), .unset, .unset, .unset, .unset] [(.int i7), (.int i3), (.ref (n0 + a10))])) rfl (by rw [hml]; rfl) (rest := []) (lenOf pd_7 rfl) rfl (by show 2 * 0 + _ ≤ _; exact Nat.le_of_eq rfl) (hb hby at_133) (by show _ + 7 ≤ 40; omega) (by show _ + 112 ≤ 384; omega)
    obtain ⟨u18, hk17, hf⟩ := own_bind hf
    obtain ⟨D17, hq17, hf⟩ := own_bind hf
    obtain ⟨T17, h17, L17, X17, e17, O17, N17, st17⟩ := callVW X15 hx hZ (y := (⟨"com/example/planar_drawing_kit/planardrawingkit/inspect/SweepLine", "insertAbove", "(II)V"⟩ : MethodName)) hown (hw _ (List.mem_of_getElem? (i := 42) rfl)) (hw _ (List.mem_of_getElem? (i := 43) rfl)) (hw _ (List.mem_of_getElem? (i := 45) rfl)) (hw _ (List.mem_of_getElem? (i := 44) rfl)) (hw _ (List.mem_of_getElem? (i := 3) rfl)) (hw _ (List.mem_of_getElem? (i := 46) rfl)) (by decide) e15 O15 N15 hk17 rfl (as' := [(.int i7), (.int i8)]) (ct4 hw hq17) (W := 0) (kc := 7) (ks := 112) rfl rfl (by decide) (by decide) (g := (mkF m 142 #[.val (.int i0), .val (.int i1), .val (.int i2), .val (.int i3), .val (.int i4), .val (.int i5), .val (.int i6), .val (.int i7), .val (.int i8), .val (.int i9), .val (.int t0), .val (.int (-1 : Int32)), .val (.ref (n0 + a10)), .unset, .unset, .unset, .unset] [(.int i8), (.int i7), (.ref (n0 + a10))])) rfl (by rw [hml]; rfl) (rest := []) (lenOf pd_7 rfl) rfl (by show 2 * 0 + _ ≤ _; exact Nat.le_of_eq rfl) (hb hby at_142) (by show _ + 7 ≤ 40; omega) (by show _ + 112 ≤ 384; omega)
    refine Gl.on (B := T17.setTop (mkF m 174 #[.val (.int i0), .val (.int i1), .val (.int i2), .val (.int i3), .val (.int i4), .val (.int i5), .val (.int i6), .val (.int i7), .val (.int i8), .val (.int i9), .val (.int t0), .val (.int (-1 : Int32)), .val (.ref (n0 + a10)), .unset, .unset, .unset, .unset] [])) (fun t k => ?_) ?_
    · show Steps p.tables e below (T11.setTop (mkF m 117 #[.val (.int i0), .val (.int i1), .val (.int i2), .val (.int i3), .val (.int i4), .val (.int i5), .val (.int i6), .val (.int i7), .val (.int i8), .val (.int i9), .val (.int t0), .val (.int (-1 : Int32)), .val (.ref (n0 + a10)), .unset, .unset, .unset, .unset] [(.int i9)])) _
      refine XS.ifNo X11.here hx rfl (hb hby at_117) rfl ((if0 _ _).trans (teq hc12).2) ?_
      show Steps p.tables e below (T11.setTop (mkF m 120 #[.val (.int i0), .val (.int i1), .val (.int i2), .val (.int i3), .val (.int i4), .val (.int i5), .val (.int i6), .val (.int i7), .val (.int i8), .val (.int i9), .val (.int t0), .val (.int (-1 : Int32)), .val (.ref (n0 + a10)), .unset, .unset, .unset, .unset] [])) _
      refine XS.aload X11.here hx rfl (hb hby at_120) rfl rfl ?_
      show Steps p.tables e below (T11.setTop (mkF m 122 #[.val (.int i0), .val (.int i1), .val (.int i2), .val (.int i3), .val (.int i4), .val (.int i5), .val (.int i6), .val (.int i7), .val (.int i8), .val (.int i9), .val (.int t0), .val (.int (-1 : Int32)), .val (.ref (n0 + a10)), .unset, .unset, .unset, .unset] [(.ref (n0 + a10))])) _
      refine XS.iload X11.here hx rfl (hb hby at_122) rfl ?_
      show Steps p.tables e below (T11.setTop (mkF m 124 #[.val (.int i0), .val (.int i1), .val (.int i2), .val (.int i3), .val (.int i4), .val (.int i5), .val (.int i6), .val (.int i7), .val (.int i8), .val (.int i9), .val (.int t0), .val (.int (-1 : Int32)), .val (.ref (n0 + a10)), .unset, .unset, .unset, .unset] [(.int (-1 : Int32)), (.ref (n0 + a10))])) _
      refine XS.iloadN X11.here hx rfl (hb hby at_124) rfl ?_
      show Steps p.tables e below (T11.setTop (mkF m 125 #[.val (.int i0), .val (.int i1), .val (.int i2), .val (.int i3), .val (.int i4), .val (.int i5), .val (.int i6), .val (.int i7), .val (.int i8), .val (.int i9), .val (.int t0), .val (.int (-1 : Int32)), .val (.ref (n0 + a10)), .unset, .unset, .unset, .unset] [(.int i3), (.int (-1 : Int32)), (.ref (n0 + a10))])) _
      refine st13 _ ?_
      show Steps p.tables e below (T13.setTop (mkF m 128 #[.val (.int i0), .val (.int i1), .val (.int i2), .val (.int i3), .val (.int i4), .val (.int i5), .val (.int i6), .val (.int i7), .val (.int i8), .val (.int i9), .val (.int t0), .val (.int (-1 : Int32)), .val (.ref (n0 + a10)), .unset, .unset, .unset, .unset] [])) _
      refine XS.aload X13.here hx rfl (hb hby at_128) rfl rfl ?_
      show Steps p.tables e below (T13.setTop (mkF m 130 #[.val (.int i0), .val (.int i1), .val (.int i2), .val (.int i3), .val (.int i4), .val (.int i5), .val (.int i6), .val (.int i7), .val (.int i8), .val (.int i9), .val (.int t0), .val (.int (-1 : Int32)), .val (.ref (n0 + a10)), .unset, .unset, .unset, .unset] [(.ref (n0 + a10))])) _
      refine XS.iloadN X13.here hx rfl (hb hby at_130) rfl ?_
      show Steps p.tables e below (T13.setTop (mkF m 131 #[.val (.int i0), .val (.int i1), .val (.int i2), .val (.int i3), .val (.int i4), .val (.int i5), .val (.int i6), .val (.int i7), .val (.int i8), .val (.int i9), .val (.int t0), .val (.int (-1 : Int32)), .val (.ref (n0 + a10)), .unset, .unset, .unset, .unset] [(.int i3), (.ref (n0 + a10))])) _
      refine XS.iload X13.here hx rfl (hb hby at_131) rfl ?_
      show Steps p.tables e below (T13.setTop (mkF m 133 #[.val (.int i0), .val (.int i1), .val (.int i2), .val (.int i3), .val (.int i4), .val (.int i5), .val (.int i6), .val (.int i7), .val (.int i8), .val (.int i9), .val (.int t0), .val (.int (-1 : Int32)), .val (.ref (n0 + a10)), .unset, .unset, .unset, .unset] [(.int i7), (.int i3), (.ref (n0 + a10))])) _
      refine st15 _ ?_
      show Steps p.tables e below (T15.setTop (mkF m 136 #[.val (.int i0), .val (.int i1), .val (.int i2), .val (.int i3), .val (.int i4), .val (.int i5), .val (.int i6), .val (.int i7), .val (.int i8), .val (.int i9), .val (.int t0), .val (.int (-1 : Int32)), .val (.ref (n0 + a10)), .unset, .unset, .unset, .unset] [])) _
      refine XS.aload X15.here hx rfl (hb hby at_136) rfl rfl ?_
      show Steps p.tables e below (T15.setTop (mkF m 138 #[.val (.int i0), .val (.int i1), .val (.int i2), .val (.int i3), .val (.int i4), .val (.int i5), .val (.int i6), .val (.int i7), .val (.int i8), .val (.int i9), .val (.int t0), .val (.int (-1 : Int32)), .val (.ref (n0 + a10)), .unset, .unset, .unset, .unset] [(.ref (n0 + a10))])) _
      refine XS.iload X15.here hx rfl (hb hby at_138) rfl ?_
      show Steps p.tables e below (T15.setTop (mkF m 140 #[.val (.int i0), .val (.int i1), .val (.int i2), .val (.int i3), .val (.int i4), .val (.int i5), .val (.int i6), .val (.int i7), .val (.int i8), .val (.int i9), .val (.int t0), .val (.int (-1 : Int32)), .val (.ref (n0 + a10)), .unset, .unset, .unset, .unset] [(.int i7), (.ref (n0 + a10))])) _
      refine XS.iload X15.here hx rfl (hb hby at_140) rfl ?_
      show Steps p.tables e below (T15.setTop (mkF m 142 #[.val (.int i0), .val (.int i1), .val (.int i2), .val (.int i3), .val (.int i4), .val (.int i5), .val (.int i6), .val (.int i7), .val (.int i8), .val (.int i9), .val (.int t0), .val (.int (-1 : Int32)), .val (.ref (n0 + a10)), .unset, .unset, .unset, .unset] [(.int i8), (.int i7), (.ref (n0 + a10))])) _
      refine st17 _ ?_
      show Steps p.tables e below (T17.setTop (mkF m 145 #[.val (.int i0), .val (.int i1), .val (.int i2), .val (.int i3), .val (.int i4), .val (.int i5), .val (.int i6), .val (.int i7), .val (.int i8), .val (.int i9), .val (.int t0), .val (.int (-1 : Int32)), .val (.ref (n0 + a10)), .unset, .unset, .unset, .unset] [])) _
      refine XS.goto X17.here hx rfl (pc0 := 145) (pc' := 174) rfl (hb hby at_145) (by decide) (by decide) ?_
      exact k
    exact bt0_174 hw hC X17 e17 O17 N17 (by omega) (by omega) hf
  · rw [if_neg hc12] at hf
    obtain ⟨u20, hk19, hf⟩ := own_bind hf
    obtain ⟨D19, hq19, hf⟩ := own_bind hf
    obtain ⟨T19, h19, L19, X19, e19, O19, N19, st19⟩ := callVW X11 hx hZ (y := (⟨"com/example/planar_drawing_kit/planardrawingkit/inspect/SweepLine", "insertAbove", "(II)V"⟩ : MethodName)) hown (hw _ (List.mem_of_getElem? (i := 42) rfl)) (hw _ (List.mem_of_getElem? (i := 43) rfl)) (hw _ (List.mem_of_getElem? (i := 45) rfl)) (hw _ (List.mem_of_getElem? (i := 44) rfl)) (hw _ (List.mem_of_getElem? (i := 3) rfl)) (hw _ (List.mem_of_getElem? (i := 46) rfl)) (by decide) e11 O11 N11 hk19 rfl (as' := [(.int (-1 : Int32)), (.int i8)]) (ct4 hw hq19) (W := 0) (kc := 7) (ks := 112) rfl rfl (by decide) (by decide) (g := (mkF m 154 #[.val (.int i0), .val (.int i1), .val (.int i2), .val (.int i3), .val (.int i4), .val (.int i5), .val (.int i6), .val (.int i7), .val (.int i8), .val (.int i9), .val (.int t0), .val (.int (-1 : Int32)), .val (.ref (n0 + a10)), .unset, .unset, .unset, .unset] [(.int i8), (.int (-1 : Int32)), (.ref (n0 + a10))])) rfl (by rw [hml]; rfl) (rest := []) (lenOf pd_7 rfl) rfl (by show 2 * 0 + _ ≤ _; exact Nat.le_of_eq rfl) (hb hby at_154) (by show _ + 7 ≤ 40; omega) (by show _ + 112 ≤ 384; omega)
    obtain ⟨u22, hk21, hf⟩ := own_bind hf
    obtain ⟨D21, hq21, hf⟩ := own_bind hf
    obtain ⟨T21, h21, L21, X21, e21, O21, N21, st21⟩ := callVW X19 hx hZ (y := (⟨"com/example/planar_drawing_kit/planardrawingkit/inspect/SweepLine", "insertAbove", "(II)V"⟩ : MethodName)) hown (hw _ (List.mem_of_getElem? (i := 42) rfl)) (hw _ (List.mem_of_getElem? (i := 43) rfl)) (hw _ (List.mem_of_getElem? (i := 45) rfl)) (hw _ (List.mem_of_getElem? (i := 44) rfl)) (hw _ (List.mem_of_getElem? (i := 3) rfl)) (hw _ (List.mem_of_getElem? (i := 46) rfl)) (by decide) e19 O19 N19 hk21 rfl (as' := [(.int (-1 : Int32)), (.int i7)]) (ct4 hw hq21) (W := 0) (kc := 7) (ks := 112) rfl rfl (by decide) (by decide) (g := (mkF m 163 #[.val (.int i0), .val (.int i1), .val (.int i2), .val (.int i3), .val (.int i4), .val (.int i5), .val (.int i6), .val (.int i7), .val (.int i8), .val (.int i9), .val (.int t0), .val (.int (-1 : Int32)), .val (.ref (n0 + a10)), .unset, .unset, .unset, .unset] [(.int i7), (.int (-1 : Int32)), (.ref (n0 + a10))])) rfl (by rw [hml]; rfl) (rest := []) (lenOf pd_7 rfl) rfl (by show 2 * 0 + _ ≤ _; exact Nat.le_of_eq rfl) (hb hby at_163) (by show _ + 7 ≤ 40; omega) (by show _ + 112 ≤ 384; omega)
    obtain ⟨u24, hk23, hf⟩ := own_bind hf
    obtain ⟨D23, hq23, hf⟩ := own_bind hf
    obtain ⟨T23, h23, L23, X23, e23, O23, N23, st23⟩ := callVW X21 hx hZ (y := (⟨"com/example/planar_drawing_kit/planardrawingkit/inspect/SweepLine", "insertAbove", "(II)V"⟩ : MethodName)) hown (hw _ (List.mem_of_getElem? (i := 42) rfl)) (hw _ (List.mem_of_getElem? (i := 43) rfl)) (hw _ (List.mem_of_getElem? (i := 45) rfl)) (hw _ (List.mem_of_getElem? (i := 44) rfl)) (hw _ (List.mem_of_getElem? (i := 3) rfl)) (hw _ (List.mem_of_getElem? (i := 46) rfl)) (by decide) e21 O21 N21 hk23 rfl (as' := [(.int (-1 : Int32)), (.int i3)]) (ct4 hw hq23) (W := 0) (kc := 7) (ks := 112) rfl rfl (by decide) (by decide) (g := (mkF m 171 #[.val (.int i0), .val (.int i1), .val (.int i2), .val (.int i3), .val (.int i4), .val (.int i5), .val (.int i6), .val (.int i7), .val (.int i8), .val (.int i9), .val (.int t0), .val (.int (-1 : Int32)), .val (.ref (n0 + a10)), .unset, .unset, .unset, .unset] [(.int i3), (.int (-1 : Int32)), (.ref (n0 + a10))])) rfl (by rw [hml]; rfl) (rest := []) (lenOf pd_7 rfl) rfl (by show 2 * 0 + _ ≤ _; exact Nat.le_of_eq rfl) (hb hby at_171) (by show _ + 7 ≤ 40; omega) (by show _ + 112 ≤ 384; omega)
    refine Gl.on (B := T23.setTop (mkF m 174 #[.val (.int i0), .val (.int i1), .val (.int i2), .val (.int i3), .val (.int i4), .val (.int i5), .val (.int i6), .val (.int i7), .val (.int i8), .val (.int i9), .val (.int t0), .val (.int (-1 : Int32)), .val (.ref (n0 + a10)), .unset, .unset, .unset, .unset] [])) (fun t k => ?_) ?_
    · show Steps p.tables e below (T11.setTop (mkF m 117 #[.val (.int i0), .val (.int i1), .val (.int i2), .val (.int i3), .val (.int i4), .val (.int i5), .val (.int i6), .val (.int i7), .val (.int i8), .val (.int i9), .val (.int t0), .val (.int (-1 : Int32)), .val (.ref (n0 + a10)), .unset, .unset, .unset, .unset] [(.int i9)])) _
      refine XS.ifYes X11.here hx rfl (pc0 := 117) (pc' := 148) rfl (hb hby at_117) rfl ((if0 _ _).trans (feq hc12).2) (by decide) (by decide) ?_
      show Steps p.tables e below (T11.setTop (mkF m 148 #[.val (.int i0), .val (.int i1), .val (.int i2), .val (.int i3), .val (.int i4), .val (.int i5), .val (.int i6), .val (.int i7), .val (.int i8), .val (.int i9), .val (.int t0), .val (.int (-1 : Int32)), .val (.ref (n0 + a10)), .unset, .unset, .unset, .unset] [])) _
      refine XS.aload X11.here hx rfl (hb hby at_148) rfl rfl ?_
      show Steps p.tables e below (T11.setTop (mkF m 150 #[.val (.int i0), .val (.int i1), .val (.int i2), .val (.int i3), .val (.int i4), .val (.int i5), .val (.int i6), .val (.int i7), .val (.int i8), .val (.int i9), .val (.int t0), .val (.int (-1 : Int32)), .val (.ref (n0 + a10)), .unset, .unset, .unset, .unset] [(.ref (n0 + a10))])) _
      refine XS.iload X11.here hx rfl (hb hby at_150) rfl ?_
      show Steps p.tables e below (T11.setTop (mkF m 152 #[.val (.int i0), .val (.int i1), .val (.int i2), .val (.int i3), .val (.int i4), .val (.int i5), .val (.int i6), .val (.int i7), .val (.int i8), .val (.int i9), .val (.int t0), .val (.int (-1 : Int32)), .val (.ref (n0 + a10)), .unset, .unset, .unset, .unset] [(.int (-1 : Int32)), (.ref (n0 + a10))])) _
      refine XS.iload X11.here hx rfl (hb hby at_152) rfl ?_
      show Steps p.tables e below (T11.setTop (mkF m 154 #[.val (.int i0), .val (.int i1), .val (.int i2), .val (.int i3), .val (.int i4), .val (.int i5), .val (.int i6), .val (.int i7), .val (.int i8), .val (.int i9), .val (.int t0), .val (.int (-1 : Int32)), .val (.ref (n0 + a10)), .unset, .unset, .unset, .unset] [(.int i8), (.int (-1 : Int32)), (.ref (n0 + a10))])) _
      refine st19 _ ?_
      show Steps p.tables e below (T19.setTop (mkF m 157 #[.val (.int i0), .val (.int i1), .val (.int i2), .val (.int i3), .val (.int i4), .val (.int i5), .val (.int i6), .val (.int i7), .val (.int i8), .val (.int i9), .val (.int t0), .val (.int (-1 : Int32)), .val (.ref (n0 + a10)), .unset, .unset, .unset, .unset] [])) _
      refine XS.aload X19.here hx rfl (hb hby at_157) rfl rfl ?_
      show Steps p.tables e below (T19.setTop (mkF m 159 #[.val (.int i0), .val (.int i1), .val (.int i2), .val (.int i3), .val (.int i4), .val (.int i5), .val (.int i6), .val (.int i7), .val (.int i8), .val (.int i9), .val (.int t0), .val (.int (-1 : Int32)), .val (.ref (n0 + a10)), .unset, .unset, .unset, .unset] [(.ref (n0 + a10))])) _
      refine XS.iload X19.here hx rfl (hb hby at_159) rfl ?_
      show Steps p.tables e below (T19.setTop (mkF m 161 #[.val (.int i0), .val (.int i1), .val (.int i2), .val (.int i3), .val (.int i4), .val (.int i5), .val (.int i6), .val (.int i7), .val (.int i8), .val (.int i9), .val (.int t0), .val (.int (-1 : Int32)), .val (.ref (n0 + a10)), .unset, .unset, .unset, .unset] [(.int (-1 : Int32)), (.ref (n0 + a10))])) _
      refine XS.iload X19.here hx rfl (hb hby at_161) rfl ?_
      show Steps p.tables e below (T19.setTop (mkF m 163 #[.val (.int i0), .val (.int i1), .val (.int i2), .val (.int i3), .val (.int i4), .val (.int i5), .val (.int i6), .val (.int i7), .val (.int i8), .val (.int i9), .val (.int t0), .val (.int (-1 : Int32)), .val (.ref (n0 + a10)), .unset, .unset, .unset, .unset] [(.int i7), (.int (-1 : Int32)), (.ref (n0 + a10))])) _
      refine st21 _ ?_
      show Steps p.tables e below (T21.setTop (mkF m 166 #[.val (.int i0), .val (.int i1), .val (.int i2), .val (.int i3), .val (.int i4), .val (.int i5), .val (.int i6), .val (.int i7), .val (.int i8), .val (.int i9), .val (.int t0), .val (.int (-1 : Int32)), .val (.ref (n0 + a10)), .unset, .unset, .unset, .unset] [])) _
      refine XS.aload X21.here hx rfl (hb hby at_166) rfl rfl ?_
      show Steps p.tables e below (T21.setTop (mkF m 168 #[.val (.int i0), .val (.int i1), .val (.int i2), .val (.int i3), .val (.int i4), .val (.int i5), .val (.int i6), .val (.int i7), .val (.int i8), .val (.int i9), .val (.int t0), .val (.int (-1 : Int32)), .val (.ref (n0 + a10)), .unset, .unset, .unset, .unset] [(.ref (n0 + a10))])) _
      refine XS.iload X21.here hx rfl (hb hby at_168) rfl ?_
      show Steps p.tables e below (T21.setTop (mkF m 170 #[.val (.int i0), .val (.int i1), .val (.int i2), .val (.int i3), .val (.int i4), .val (.int i5), .val (.int i6), .val (.int i7), .val (.int i8), .val (.int i9), .val (.int t0), .val (.int (-1 : Int32)), .val (.ref (n0 + a10)), .unset, .unset, .unset, .unset] [(.int (-1 : Int32)), (.ref (n0 + a10))])) _
      refine XS.iloadN X21.here hx rfl (hb hby at_170) rfl ?_
      show Steps p.tables e below (T21.setTop (mkF m 171 #[.val (.int i0), .val (.int i1), .val (.int i2), .val (.int i3), .val (.int i4), .val (.int i5), .val (.int i6), .val (.int i7), .val (.int i8), .val (.int i9), .val (.int t0), .val (.int (-1 : Int32)), .val (.ref (n0 + a10)), .unset, .unset, .unset, .unset] [(.int i3), (.int (-1 : Int32)), (.ref (n0 + a10))])) _
      refine st23 _ ?_
      exact k
    exact bt0_174 hw hC X23 e23 O23 N23 (by omega) (by omega) hf
def b0_87 (D : Hp) (i1 : Int32) (i3 : Int32) (i7 : Int32) (i8 : Int32) (t0 : Int32) : Option (Int32 × Hp) :=
  if (i1 &&& (1 : Int32)) = (0 : Int32) then (b0_100 D i3 i7 i8 t0 (0 : Int32)) else (b0_100 D i3 i7 i8 t0 (1 : Int32))
set_option maxRecDepth 65536 in
set_option maxHeartbeats 40000000 in
theorem bt0_87 {p : Program} {l : Launch} {e : Env} {s : State} {m : MethodId} {args : Array Value} {below : List Frame} {meth : Method} {c : Code} {Z : State} {a0 : Array Value} {n0 : Nat} {D' : Hp} {r : Int32} {T0 : State} {locs : List Loc} {cells slots : Nat} {h0 : Heap} {D : Hp} {i0 : Int32} {i1 : Int32} {i2 : Int32} {i3 : Int32} {i4 : Int32} {i5 : Int32} {i6 : Int32} {i7 : Int32} {i8 : Int32} {t0 : Int32} (hw : ∀ d ∈ tables_1, d.before a0 Z = true) (hC : Cx p s m meth c Z code maxLocals ret "com/example/planar_drawing_kit/planardrawingkit/inspect/SweepLineSwapWithAbovePinLaw" "law") (X0 : Stand p l e room_1 s m args below meth c T0 locs cells slots) (e0 : T0.heap = h0) (O0 : Ow Kt1 Z h0 n0 D) (N0 : Fr n0 locs) (hcc : cells ≤ 0) (hss : slots ≤ 0) (hf : b0_87 D i1 i3 i7 i8 t0 = some (r, D')) : Gl p e below s 40 384 (Qw Kt1 Z n0 (some (.int r)) D') (T0.setTop (mkF m 87 #[.val (.int i0), .val (.int i1), .val (.int i2), .val (.int i3), .val (.int i4), .val (.int i5), .val (.int i6), .val (.int i7), .val (.int i8), .unset, .unset, .unset, .unset, .unset, .unset, .unset, .unset] [(.int t0)])) := by
  obtain ⟨hx, hZ, hby, hml, hown, hnm, hret, hlk⟩ := id hC
  have hml : c.maxLocals = 17 := hml
  rw [b0_87] at hf
  refine Gl.on (B := T0.setTop (mkF m 92 #[.val (.int i0), .val (.int i1), .val (.int i2), .val (.int i3), .val (.int i4), .val (.int i5), .val (.int i6), .val (.int i7), .val (.int i8), .val (.int t0), .unset, .unset, .unset, .unset, .unset, .unset, .unset] [(.int (i1 &&& (1 : Int32)))])) (fun t k => ?_) ?_
  · show Steps p.tables e below (T0.setTop (mkF m 87 #[.val (.int i0), .val (.int i1), .val (.int i2), .val (.int i3), .val (.int i4), .val (.int i5), .val (.int i6), .val (.int i7), .val (.int i8), .unset, .unset, .unset, .unset, .unset, .unset, .unset, .unset] [(.int t0)])) _
    refine XS.istore X0.here hx rfl (hb hby at_87) rfl (l' := #[.val (.int i0), .val (.int i1), .val (.int i2), .val (.int i3), .val (.int i4), .val (.int i5), .val (.int i6), .val (.int i7), .val (.int i8), .val (.int t0), .unset, .unset, .unset, .unset, .unset, .unset, .unset]) rfl ?_
    show Steps p.tables e below (T0.setTop (mkF m 89 #[.val (.int i0), .val (.int i1), .val (.int i2), .val (.int i3), .val (.int i4), .val (.int i5), .val (.int i6), .val (.int i7), .val (.int i8), .val (.int t0), .unset, .unset, .unset, .unset, .unset, .unset, .unset] [])) _
    refine XS.iloadN X0.here hx rfl (hb hby at_89) rfl ?_
    show Steps p.tables e below (T0.setTop (mkF m 90 #[.val (.int i0), .val (.int i1), .val (.int i2), .val (.int i3), .val (.int i4), .val (.int i5), .val (.int i6), .val (.int i7), .val (.int i8), .val (.int t0), .unset, .unset, .unset, .unset, .unset, .unset, .unset] [(.int i1)])) _
    refine XS.iconst X0.here hx rfl (hb hby at_90) ?_
    show Steps p.tables e below (T0.setTop (mkF m 91 #[.val (.int i0), .val (.int i1), .val (.int i2), .val (.int i3), .val (.int i4), .val (.int i5), .val (.int i6), .val (.int i7), .val (.int i8), .val (.int t0), .unset, .unset, .unset, .unset, .unset, .unset, .unset] [(.int (1 : Int32)), (.int i1)])) _
    refine XS.iand X0.here hx rfl (hb hby at_91) rfl ?_
    exact k
  by_cases hc9 : (i1 &&& (1 : Int32)) = (0 : Int32)
  · rw [if_pos hc9] at hf
    refine Gl.on (B := T0.setTop (mkF m 100 #[.val (.int i0), .val (.int i1), .val (.int i2), .val (.int i3), .val (.int i4), .val (.int i5), .val (.int i6), .val (.int i7), .val (.int i8), .val (.int t0), .unset, .unset, .unset, .unset, .unset, .unset, .unset] [(.int (0 : Int32))])) (fun t k => ?_) ?_
    · show Steps p.tables e below (T0.setTop (mkF m 92 #[.val (.int i0), .val (.int i1), .val (.int i2), .val (.int i3), .val (.int i4), .val (.int i5), .val (.int i6), .val (.int i7), .val (.int i8), .val (.int t0), .unset, .unset, .unset, .unset, .unset, .unset, .unset] [(.int (i1 &&& (1 : Int32)))])) _
      refine XS.ifYes X0.here hx rfl (pc0 := 92) (pc' := 99) rfl (hb hby at_92) rfl ((if0 _ _).trans (teq hc9).1) (by decide) (by decide) ?_
      show Steps p.tables e below (T0.setTop (mkF m 99 #[.val (.int i0), .val (.int i1), .val (.int i2), .val (.int i3), .val (.int i4), .val (.int i5), .val (.int i6), .val (.int i7), .val (.int i8), .val (.int t0), .unset, .unset, .unset, .unset, .unset, .unset, .unset] [])) _
      refine XS.iconst X0.here hx rfl (hb hby at_99) ?_
      exact k
    exact bt0_100 hw hC X0 e0 O0 N0 (by omega) (by omega) hf
  · rw [if_neg hc9] at hf
    refine Gl.on (B := T0.setTop (mkF m 100 #[.val (.int i0), .val (.int i1), .val (.int i2), .val (.int i3), .val (.int i4), .val (.int i5), .val (.int i6), .val (.int i7), .val (.int i8), .val (.int t0), .unset, .unset, .unset, .unset, .unset, .unset, .unset] [(.int (1 : Int32))])) (fun t k => ?_) ?_
    · show Steps p.tables e below (T0.setTop (mkF m 92 #[.val (.int i0), .val (.int i1), .val (.int i2), .val (.int i3), .val (.int i4), .val (.int i5), .val (.int i6), .val (.int i7), .val (.int i8), .val (.int t0), .unset, .unset, .unset, .unset, .unset, .unset, .unset] [(.int (i1 &&& (1 : Int32)))])) _
      refine XS.ifNo X0.here hx rfl (hb hby at_92) rfl ((if0 _ _).trans (feq hc9).1) ?_
      show Steps p.tables e below (T0.setTop (mkF m 95 #[.val (.int i0), .val (.int i1), .val (.int i2), .val (.int i3), .val (.int i4), .val (.int i5), .val (.int i6), .val (.int i7), .val (.int i8), .val (.int t0), .unset, .unset, .unset, .unset, .unset, .unset, .unset] [])) _
      refine XS.iconst X0.here hx rfl (hb hby at_95) ?_
      show Steps p.tables e below (T0.setTop (mkF m 96 #[.val (.int i0), .val (.int i1), .val (.int i2), .val (.int i3), .val (.int i4), .val (.int i5), .val (.int i6), .val (.int i7), .val (.int i8), .val (.int t0), .unset, .unset, .unset, .unset, .unset, .unset, .unset] [(.int (1 : Int32))])) _
      refine XS.goto X0.here hx rfl (pc0 := 96) (pc' := 100) rfl (hb hby at_96) (by decide) (by decide) ?_
      exact k
    exact bt0_100 hw hC X0 e0 O0 N0 (by omega) (by omega) hf
def b0_74 (D : Hp) (i1 : Int32) (i3 : Int32) (i7 : Int32) (t0 : Int32) : Option (Int32 × Hp) :=
  if (i1 &&& (2 : Int32)) = (0 : Int32) then (b0_87 D i1 i3 i7 t0 (0 : Int32)) else (b0_87 D i1 i3 i7 t0 (1 : Int32))
set_option maxRecDepth 65536 in
set_option maxHeartbeats 40000000 in
theorem bt0_74 {p : Program} {l : Launch} {e : Env} {s : State} {m : MethodId} {args : Array Value} {below : List Frame} {meth : Method} {c : Code} {Z : State} {a0 : Array Value} {n0 : Nat} {D' : Hp} {r : Int32} {T0 : State} {locs : List Loc} {cells slots : Nat} {h0 : Heap} {D : Hp} {i0 : Int32} {i1 : Int32} {i2 : Int32} {i3 : Int32} {i4 : Int32} {i5 : Int32} {i6 : Int32} {i7 : Int32} {t0 : Int32} (hw : ∀ d ∈ tables_1, d.before a0 Z = true) (hC : Cx p s m meth c Z code maxLocals ret "com/example/planar_drawing_kit/planardrawingkit/inspect/SweepLineSwapWithAbovePinLaw" "law") (X0 : Stand p l e room_1 s m args below meth c T0 locs cells slots) (e0 : T0.heap = h0) (O0 : Ow Kt1 Z h0 n0 D) (N0 : Fr n0 locs) (hcc : cells ≤ 0) (hss : slots ≤ 0) (hf : b0_74 D i1 i3 i7 t0 = some (r, D')) : Gl p e below s 40 384 (Qw Kt1 Z n0 (some (.int r)) D') (T0.setTop (mkF m 74 #[.val (.int i0), .val (.int i1), .val (.int i2), .val (.int i3), .val (.int i4), .val (.int i5), .val (.int i6), .val (.int i7), .unset, .unset, .unset, .unset, .unset, .unset, .unset, .unset, .unset] [(.int t0)])) := by
  obtain ⟨hx, hZ, hby, hml, hown, hnm, hret, hlk⟩ := id hC
  have hml : c.maxLocals = 17 := hml
  rw [b0_74] at hf
  refine Gl.on (B := T0.setTop (mkF m 79 #[.val (.int i0), .val (.int i1), .val (.int i2), .val (.int i3), .val (.int i4), .val (.int i5), .val (.int i6), .val (.int i7), .val (.int t0), .unset, .unset, .unset, .unset, .unset, .unset, .unset, .unset] [(.int (i1 &&& (2 : Int32)))])) (fun t k => ?_) ?_
  · show Steps p.tables e below (T0.setTop (mkF m 74 #[.val (.int i0), .val (.int i1), .val (.int i2), .val (.int i3), .val (.int i4), .val (.int i5), .val (.int i6), .val (.int i7), .unset, .unset, .unset, .unset, .unset, .unset, .unset, .unset, .unset] [(.int t0)])) _
    refine XS.istore X0.here hx rfl (hb hby at_74) rfl (l' := #[.val (.int i0), .val (.int i1), .val (.int i2), .val (.int i3), .val (.int i4), .val (.int i5), .val (.int i6), .val (.int i7), .val (.int t0), .unset, .unset, .unset, .unset, .unset, .unset, .unset, .unset]) rfl ?_
    show Steps p.tables e below (T0.setTop (mkF m 76 #[.val (.int i0), .val (.int i1), .val (.int i2), .val (.int i3), .val (.int i4), .val (.int i5), .val (.int i6), .val (.int i7), .val (.int t0), .unset, .unset, .unset, .unset, .unset, .unset, .unset, .unset] [])) _
    refine XS.iloadN X0.here hx rfl (hb hby at_76) rfl ?_
    show Steps p.tables e below (T0.setTop (mkF m 77 #[.val (.int i0), .val (.int i1), .val (.int i2), .val (.int i3), .val (.int i4), .val (.int i5), .val (.int i6), .val (.int i7), .val (.int t0), .unset, .unset, .unset, .unset, .unset, .unset, .unset, .unset] [(.int i1)])) _
    refine XS.iconst X0.here hx rfl (hb hby at_77) ?_
    show Steps p.tables e below (T0.setTop (mkF m 78 #[.val (.int i0), .val (.int i1), .val (.int i2), .val (.int i3), .val (.int i4), .val (.int i5), .val (.int i6), .val (.int i7), .val (.int t0), .unset, .unset, .unset, .unset, .unset, .unset, .unset, .unset] [(.int (2 : Int32)), (.int i1)])) _
    refine XS.iand X0.here hx rfl (hb hby at_78) rfl ?_
    exact k
  by_cases hc8 : (i1 &&& (2 : Int32)) = (0 : Int32)
  · rw [if_pos hc8] at hf
    refine Gl.on (B := T0.setTop (mkF m 87 #[.val (.int i0), .val (.int i1), .val (.int i2), .val (.int i3), .val (.int i4), .val (.int i5), .val (.int i6), .val (.int i7), .val (.int t0), .unset, .unset, .unset, .unset, .unset, .unset, .unset, .unset] [(.int (0 : Int32))])) (fun t k => ?_) ?_
    · show Steps p.tables e below (T0.setTop (mkF m 79 #[.val (.int i0), .val (.int i1), .val (.int i2), .val (.int i3), .val (.int i4), .val (.int i5), .val (.int i6), .val (.int i7), .val (.int t0), .unset, .unset, .unset, .unset, .unset, .unset, .unset, .unset] [(.int (i1 &&& (2 : Int32)))])) _
      refine XS.ifYes X0.here hx rfl (pc0 := 79) (pc' := 86) rfl (hb hby at_79) rfl ((if0 _ _).trans (teq hc8).1) (by decide) (by decide) ?_
      show Steps p.tables e below (T0.setTop (mkF m 86 #[.val (.int i0), .val (.int i1), .val (.int i2), .val (.int i3), .val (.int i4), .val (.int i5), .val (.int i6), .val (.int i7), .val (.int t0), .unset, .unset, .unset, .unset, .unset, .unset, .unset, .unset] [])) _
      refine XS.iconst X0.here hx rfl (hb hby at_86) ?_
      exact k
    exact bt0_87 hw hC X0 e0 O0 N0 (by omega) (by omega) hf
  · rw [if_neg hc8] at hf
    refine Gl.on (B := T0.setTop (mkF m 87 #[.val (.int i0), .val (.int i1), .val (.int i2), .val (.int i3), .val (.int i4), .val (.int i5), .val (.int i6), .val (.int i7), .val (.int t0), .unset, .unset, .unset, .unset, .unset, .unset, .unset, .unset] [(.int (1 : Int32))])) (fun t k => ?_) ?_
    · show Steps p.tables e below (T0.setTop (mkF m 79 #[.val (.int i0), .val (.int i1), .val (.int i2), .val (.int i3), .val (.int i4), .val (.int i5), .val (.int i6), .val (.int i7), .val (.int t0), .unset, .unset, .unset, .unset, .unset, .unset, .unset, .unset] [(.int (i1 &&& (2 : Int32)))])) _
      refine XS.ifNo X0.here hx rfl (hb hby at_79) rfl ((if0 _ _).trans (feq hc8).1) ?_
      show Steps p.tables e below (T0.setTop (mkF m 82 #[.val (.int i0), .val (.int i1), .val (.int i2), .val (.int i3), .val (.int i4), .val (.int i5), .val (.int i6), .val (.int i7), .val (.int t0), .unset, .unset, .unset, .unset, .unset, .unset, .unset, .unset] [])) _
      refine XS.iconst X0.here hx rfl (hb hby at_82) ?_
      show Steps p.tables e below (T0.setTop (mkF m 83 #[.val (.int i0), .val (.int i1), .val (.int i2), .val (.int i3), .val (.int i4), .val (.int i5), .val (.int i6), .val (.int i7), .val (.int t0), .unset, .unset, .unset, .unset, .unset, .unset, .unset, .unset] [(.int (1 : Int32))])) _
      refine XS.goto X0.here hx rfl (pc0 := 83) (pc' := 87) rfl (hb hby at_83) (by decide) (by decide) ?_
      exact k
    exact bt0_87 hw hC X0 e0 O0 N0 (by omega) (by omega) hf
def b0_60 (D : Hp) (i1 : Int32) (i3 : Int32) (i4 : Int32) (i5 : Int32) (i6 : Int32) (t0 : Int32) : Option (Int32 × Hp) :=
  if i6 = (0 : Int32) then (b0_74 D i1 i3 t0 i5) else (b0_74 D i1 i3 t0 i4)
set_option maxRecDepth 65536 in
set_option maxHeartbeats 40000000 in
theorem bt0_60 {p : Program} {l : Launch} {e : Env} {s : State} {m : MethodId} {args : Array Value} {below : List Frame} {meth : Method} {c : Code} {Z : State} {a0 : Array Value} {n0 : Nat} {D' : Hp} {r : Int32} {T0 : State} {locs : List Loc} {cells slots : Nat} {h0 : Heap} {D : Hp} {i0 : Int32} {i1 : Int32} {i2 : Int32} {i3 : Int32} {i4 : Int32} {i5 : Int32} {i6 : Int32} {t0 : Int32} (hw : ∀ d ∈ tables_1, d.before a0 Z = true) (hC : Cx p s m meth c Z code maxLocals ret "com/example/planar_drawing_kit/planardrawingkit/inspect/SweepLineSwapWithAbovePinLaw" "law") (X0 : Stand p l e room_1 s m args below meth c T0 locs cells slots) (e0 : T0.heap = h0) (O0 : Ow Kt1 Z h0 n0 D) (N0 : Fr n0 locs) (hcc : cells ≤ 0) (hss : slots ≤ 0) (hf : b0_60 D i1 i3 i4 i5 i6 t0 = some (r, D')) : Gl p e below s 40 384 (Qw Kt1 Z n0 (some (.int r)) D') (T0.setTop (mkF m 60 #[.val (.int i0), .val (.int i1), .val (.int i2), .val (.int i3), .val (.int i4), .val (.int i5), .val (.int i6), .unset, .unset, .unset, .unset, .unset, .unset, .unset, .unset, .unset, .unset] [(.int t0)])) := by
  obtain ⟨hx, hZ, hby, hml, hown, hnm, hret, hlk⟩ := id hC
  have hml : c.maxLocals = 17 := hml
  rw [b0_60] at hf
  refine Gl.on (B := T0.setTop (mkF m 64 #[.val (.int i0), .val (.int i1), .val (.int i2), .val (.int i3), .val (.int i4), .val (.int i5), .val (.int i6), .val (.int t0), .unset, .unset, .unset, .unset, .unset, .unset, .unset, .unset, .unset] [(.int i6)])) (fun t k => ?_) ?_
  · show Steps p.tables e below (T0.setTop (mkF m 60 #[.val (.int i0), .val (.int i1), .val (.int i2), .val (.int i3), .val (.int i4), .val (.int i5), .val (.int i6), .unset, .unset, .unset, .unset, .unset, .unset, .unset, .unset, .unset, .unset] [(.int t0)])) _
    refine XS.istore X0.here hx rfl (hb hby at_60) rfl (l' := #[.val (.int i0), .val (.int i1), .val (.int i2), .val (.int i3), .val (.int i4), .val (.int i5), .val (.int i6), .val (.int t0), .unset, .unset, .unset, .unset, .unset, .unset, .unset, .unset, .unset]) rfl ?_
    show Steps p.tables e below (T0.setTop (mkF m 62 #[.val (.int i0), .val (.int i1), .val (.int i2), .val (.int i3), .val (.int i4), .val (.int i5), .val (.int i6), .val (.int t0), .unset, .unset, .unset, .unset, .unset, .unset, .unset, .unset, .unset] [])) _
    refine XS.iload X0.here hx rfl (hb hby at_62) rfl ?_
    exact k
  by_cases hc7 : i6 = (0 : Int32)
  · rw [if_pos hc7] at hf
    refine Gl.on (B := T0.setTop (mkF m 74 #[.val (.int i0), .val (.int i1), .val (.int i2), .val (.int i3), .val (.int i4), .val (.int i5), .val (.int i6), .val (.int t0), .unset, .unset, .unset, .unset, .unset, .unset, .unset, .unset, .unset] [(.int i5)])) (fun t k => ?_) ?_
    · show Steps p.tables e below (T0.setTop (mkF m 64 #[.val (.int i0), .val (.int i1), .val (.int i2), .val (.int i3), .val (.int i4), .val (.int i5), .val (.int i6), .val (.int t0), .unset, .unset, .unset, .unset, .unset, .unset, .unset, .unset, .unset] [(.int i6)])) _
      refine XS.ifYes X0.here hx rfl (pc0 := 64) (pc' := 72) rfl (hb hby at_64) rfl ((if0 _ _).trans (teq hc7).1) (by decide) (by decide) ?_
      show Steps p.tables e below (T0.setTop (mkF m 72 #[.val (.int i0), .val (.int i1), .val (.int i2), .val (.int i3), .val (.int i4), .val (.int i5), .val (.int i6), .val (.int t0), .unset, .unset, .unset, .unset, .unset, .unset, .unset, .unset, .unset] [])) _
      refine XS.iload X0.here hx rfl (hb hby at_72) rfl ?_
      exact k
    exact bt0_74 hw hC X0 e0 O0 N0 (by omega) (by omega) hf
  · rw [if_neg hc7] at hf
    refine Gl.on (B := T0.setTop (mkF m 74 #[.val (.int i0), .val (.int i1), .val (.int i2), .val (.int i3), .val (.int i4), .val (.int i5), .val (.int i6), .val (.int t0), .unset, .unset, .unset, .unset, .unset, .unset, .unset, .unset, .unset] [(.int i4)])) (fun t k => ?_) ?_
    · show Steps p.tables e below (T0.setTop (mkF m 64 #[.val (.int i0), .val (.int i1), .val (.int i2), .val (.int i3), .val (.int i4), .val (.int i5), .val (.int i6), .val (.int t0), .unset, .unset, .unset, .unset, .unset, .unset, .unset, .unset, .unset] [(.int i6)])) _
      refine XS.ifNo X0.here hx rfl (hb hby at_64) rfl ((if0 _ _).trans (feq hc7).1) ?_
      show Steps p.tables e below (T0.setTop (mkF m 67 #[.val (.int i0), .val (.int i1), .val (.int i2), .val (.int i3), .val (.int i4), .val (.int i5), .val (.int i6), .val (.int t0), .unset, .unset, .unset, .unset, .unset, .unset, .unset, .unset, .unset] [])) _
      refine XS.iload X0.here hx rfl (hb hby at_67) rfl ?_
      show Steps p.tables e below (T0.setTop (mkF m 69 #[.val (.int i0), .val (.int i1), .val (.int i2), .val (.int i3), .val (.int i4), .val (.int i5), .val (.int i6), .val (.int t0), .unset, .unset, .unset, .unset, .unset, .unset, .unset, .unset, .unset] [(.int i4)])) _
      refine XS.goto X0.here hx rfl (pc0 := 69) (pc' := 74) rfl (hb hby at_69) (by decide) (by decide) ?_
      exact k
    exact bt0_74 hw hC X0 e0 O0 N0 (by omega) (by omega) hf
def b0_46 (D : Hp) (i1 : Int32) (i3 : Int32) (i4 : Int32) (i5 : Int32) (t0 : Int32) : Option (Int32 × Hp) :=
  if t0 = (0 : Int32) then (b0_60 D i1 i3 i4 i5 t0 i4) else (b0_60 D i1 i3 i4 i5 t0 i5)
set_option maxRecDepth 65536 in
set_option maxHeartbeats 40000000 in
theorem bt0_46 {p : Program} {l : Launch} {e : Env} {s : State} {m : MethodId} {args : Array Value} {below : List Frame} {meth : Method} {c : Code} {Z : State} {a0 : Array Value} {n0 : Nat} {D' : Hp} {r : Int32} {T0 : State} {locs : List Loc} {cells slots : Nat} {h0 : Heap} {D : Hp} {i0 : Int32} {i1 : Int32} {i2 : Int32} {i3 : Int32} {i4 : Int32} {i5 : Int32} {t0 : Int32} (hw : ∀ d ∈ tables_1, d.before a0 Z = true) (hC : Cx p s m meth c Z code maxLocals ret "com/example/planar_drawing_kit/planardrawingkit/inspect/SweepLineSwapWithAbovePinLaw" "law") (X0 : Stand p l e room_1 s m args below meth c T0 locs cells slots) (e0 : T0.heap = h0) (O0 : Ow Kt1 Z h0 n0 D) (N0 : Fr n0 locs) (hcc : cells ≤ 0) (hss : slots ≤ 0) (hf : b0_46 D i1 i3 i4 i5 t0 = some (r, D')) : Gl p e below s 40 384 (Qw Kt1 Z n0 (some (.int r)) D') (T0.setTop (mkF m 46 #[.val (.int i0), .val (.int i1), .val (.int i2), .val (.int i3), .val (.int i4), .val (.int i5), .unset, .unset, .unset, .unset, .unset, .unset, .unset, .unset, .unset, .unset, .unset] [(.int t0)])) := by
  obtain ⟨hx, hZ, hby, hml, hown, hnm, hret, hlk⟩ := id hC
  have hml : c.maxLocals = 17 := hml
  rw [b0_46] at hf
  refine Gl.on (B := T0.setTop (mkF m 50 #[.val (.int i0), .val (.int i1), .val (.int i2), .val (.int i3), .val (.int i4), .val (.int i5), .val (.int t0), .unset, .unset, .unset, .unset, .unset, .unset, .unset, .unset, .unset, .unset] [(.int t0)])) (fun t k => ?_) ?_
  · show Steps p.tables e below (T0.setTop (mkF m 46 #[.val (.int i0), .val (.int i1), .val (.int i2), .val (.int i3), .val (.int i4), .val (.int i5), .unset, .unset, .unset, .unset, .unset, .unset, .unset, .unset, .unset, .unset, .unset] [(.int t0)])) _
    refine XS.istore X0.here hx rfl (hb hby at_46) rfl (l' := #[.val (.int i0), .val (.int i1), .val (.int i2), .val (.int i3), .val (.int i4), .val (.int i5), .val (.int t0), .unset, .unset, .unset, .unset, .unset, .unset, .unset, .unset, .unset, .unset]) rfl ?_
    show Steps p.tables e below (T0.setTop (mkF m 48 #[.val (.int i0), .val (.int i1), .val (.int i2), .val (.int i3), .val (.int i4), .val (.int i5), .val (.int t0), .unset, .unset, .unset, .unset, .unset, .unset, .unset, .unset, .unset, .unset] [])) _
    refine XS.iload X0.here hx rfl (hb hby at_48) rfl ?_
    exact k
  by_cases hc6 : t0 = (0 : Int32)
  · rw [if_pos hc6] at hf
    refine Gl.on (B := T0.setTop (mkF m 60 #[.val (.int i0), .val (.int i1), .val (.int i2), .val (.int i3), .val (.int i4), .val (.int i5), .val (.int t0), .unset, .unset, .unset, .unset, .unset, .unset, .unset, .unset, .unset, .unset] [(.int i4)])) (fun t k => ?_) ?_
    · show Steps p.tables e below (T0.setTop (mkF m 50 #[.val (.int i0), .val (.int i1), .val (.int i2), .val (.int i3), .val (.int i4), .val (.int i5), .val (.int t0), .unset, .unset, .unset, .unset, .unset, .unset, .unset, .unset, .unset, .unset] [(.int t0)])) _
      refine XS.ifYes X0.here hx rfl (pc0 := 50) (pc' := 58) rfl (hb hby at_50) rfl ((if0 _ _).trans (teq hc6).1) (by decide) (by decide) ?_
      show Steps p.tables e below (T0.setTop (mkF m 58 #[.val (.int i0), .val (.int i1), .val (.int i2), .val (.int i3), .val (.int i4), .val (.int i5), .val (.int t0), .unset, .unset, .unset, .unset, .unset, .unset, .unset, .unset, .unset, .unset] [])) _
      refine XS.iload X0.here hx rfl (hb hby at_58) rfl ?_
      exact k
    exact bt0_60 hw hC X0 e0 O0 N0 (by omega) (by omega) hf
  · rw [if_neg hc6] at hf
    refine Gl.on (B := T0.setTop (mkF m 60 #[.val (.int i0), .val (.int i1), .val (.int i2), .val (.int i3), .val (.int i4), .val (.int i5), .val (.int t0), .unset, .unset, .unset, .unset, .unset, .unset, .unset, .unset, .unset, .unset] [(.int i5)])) (fun t k => ?_) ?_
    · show Steps p.tables e below (T0.setTop (mkF m 50 #[.val (.int i0), .val (.int i1), .val (.int i2), .val (.int i3), .val (.int i4), .val (.int i5), .val (.int t0), .unset, .unset, .unset, .unset, .unset, .unset, .unset, .unset, .unset, .unset] [(.int t0)])) _
      refine XS.ifNo X0.here hx rfl (hb hby at_50) rfl ((if0 _ _).trans (feq hc6).1) ?_
      show Steps p.tables e below (T0.setTop (mkF m 53 #[.val (.int i0), .val (.int i1), .val (.int i2), .val (.int i3), .val (.int i4), .val (.int i5), .val (.int t0), .unset, .unset, .unset, .unset, .unset, .unset, .unset, .unset, .unset, .unset] [])) _
      refine XS.iload X0.here hx rfl (hb hby at_53) rfl ?_
      show Steps p.tables e below (T0.setTop (mkF m 55 #[.val (.int i0), .val (.int i1), .val (.int i2), .val (.int i3), .val (.int i4), .val (.int i5), .val (.int t0), .unset, .unset, .unset, .unset, .unset, .unset, .unset, .unset, .unset, .unset] [(.int i5)])) _
      refine XS.goto X0.here hx rfl (pc0 := 55) (pc' := 60) rfl (hb hby at_55) (by decide) (by decide) ?_
      exact k
    exact bt0_60 hw hC X0 e0 O0 N0 (by omega) (by omega) hf
def b0_33 (D : Hp) (i1 : Int32) (i2 : Int32) (i3 : Int32) (i4 : Int32) (t0 : Int32) : Option (Int32 × Hp) :=
  if (i2 &&& (1 : Int32)) = (0 : Int32) then (b0_46 D i1 i3 i4 t0 (0 : Int32)) else (b0_46 D i1 i3 i4 t0 (1 : Int32))
set_option maxRecDepth 65536 in
set_option maxHeartbeats 40000000 in
theorem bt0_33 {p : Program} {l : Launch} {e : Env} {s : State} {m : MethodId} {args : Array Value} {below : List Frame} {meth : Method} {c : Code} {Z : State} {a0 : Array Value} {n0 : Nat} {D' : Hp} {r : Int32} {T0 : State} {locs : List Loc} {cells slots : Nat} {h0 : Heap} {D : Hp} {i0 : Int32} {i1 : Int32} {i2 : Int32} {i3 : Int32} {i4 : Int32} {t0 : Int32} (hw : ∀ d ∈ tables_1, d.before a0 Z = true) (hC : Cx p s m meth c Z code maxLocals ret "com/example/planar_drawing_kit/planardrawingkit/inspect/SweepLineSwapWithAbovePinLaw" "law") (X0 : Stand p l e room_1 s m args below meth c T0 locs cells slots) (e0 : T0.heap = h0) (O0 : Ow Kt1 Z h0 n0 D) (N0 : Fr n0 locs) (hcc : cells ≤ 0) (hss : slots ≤ 0) (hf : b0_33 D i1 i2 i3 i4 t0 = some (r, D')) : Gl p e below s 40 384 (Qw Kt1 Z n0 (some (.int r)) D') (T0.setTop (mkF m 33 #[.val (.int i0), .val (.int i1), .val (.int i2), .val (.int i3), .val (.int i4), .unset, .unset, .unset, .unset, .unset, .unset, .unset, .unset, .unset, .unset, .unset, .unset] [(.int t0)])) := by
  obtain ⟨hx, hZ, hby, hml, hown, hnm, hret, hlk⟩ := id hC
  have hml : c.maxLocals = 17 := hml
  rw [b0_33] at hf
  refine Gl.on (B := T0.setTop (mkF m 38 #[.val (.int i0), .val (.int i1), .val (.int i2), .val (.int i3), .val (.int i4), .val (.int t0), .unset, .unset, .unset, .unset, .unset, .unset, .unset, .unset, .unset, .unset, .unset] [(.int (i2 &&& (1 : Int32)))])) (fun t k => ?_) ?_
  · show Steps p.tables e below (T0.setTop (mkF m 33 #[.val (.int i0), .val (.int i1), .val (.int i2), .val (.int i3), .val (.int i4), .unset, .unset, .unset, .unset, .unset, .unset, .unset, .unset, .unset, .unset, .unset, .unset] [(.int t0)])) _
    refine XS.istore X0.here hx rfl (hb hby at_33) rfl (l' := #[.val (.int i0), .val (.int i1), .val (.int i2), .val (.int i3), .val (.int i4), .val (.int t0), .unset, .unset, .unset, .unset, .unset, .unset, .unset, .unset, .unset, .unset, .unset]) rfl ?_
    show Steps p.tables e below (T0.setTop (mkF m 35 #[.val (.int i0), .val (.int i1), .val (.int i2), .val (.int i3), .val (.int i4), .val (.int t0), .unset, .unset, .unset, .unset, .unset, .unset, .unset, .unset, .unset, .unset, .unset] [])) _
    refine XS.iloadN X0.here hx rfl (hb hby at_35) rfl ?_
    show Steps p.tables e below (T0.setTop (mkF m 36 #[.val (.int i0), .val (.int i1), .val (.int i2), .val (.int i3), .val (.int i4), .val (.int t0), .unset, .unset, .unset, .unset, .unset, .unset, .unset, .unset, .unset, .unset, .unset] [(.int i2)])) _
    refine XS.iconst X0.here hx rfl (hb hby at_36) ?_
    show Steps p.tables e below (T0.setTop (mkF m 37 #[.val (.int i0), .val (.int i1), .val (.int i2), .val (.int i3), .val (.int i4), .val (.int t0), .unset, .unset, .unset, .unset, .unset, .unset, .unset, .unset, .unset, .unset, .unset] [(.int (1 : Int32)), (.int i2)])) _
    refine XS.iand X0.here hx rfl (hb hby at_37) rfl ?_
    exact k
  by_cases hc5 : (i2 &&& (1 : Int32)) = (0 : Int32)
  · rw [if_pos hc5] at hf
    refine Gl.on (B := T0.setTop (mkF m 46 #[.val (.int i0), .val (.int i1), .val (.int i2), .val (.int i3), .val (.int i4), .val (.int t0), .unset, .unset, .unset, .unset, .unset, .unset, .unset, .unset, .unset, .unset, .unset] [(.int (0 : Int32))])) (fun t k => ?_) ?_
    · show Steps p.tables e below (T0.setTop (mkF m 38 #[.val (.int i0), .val (.int i1), .val (.int i2), .val (.int i3), .val (.int i4), .val (.int t0), .unset, .unset, .unset, .unset, .unset, .unset, .unset, .unset, .unset, .unset, .unset] [(.int (i2 &&& (1 : Int32)))])) _
      refine XS.ifYes X0.here hx rfl (pc0 := 38) (pc' := 45) rfl (hb hby at_38) rfl ((if0 _ _).trans (teq hc5).1) (by decide) (by decide) ?_
      show Steps p.tables e below (T0.setTop (mkF m 45 #[.val (.int i0), .val (.int i1), .val (.int i2), .val (.int i3), .val (.int i4), .val (.int t0), .unset, .unset, .unset, .unset, .unset, .unset, .unset, .unset, .unset, .unset, .unset] [])) _
      refine XS.iconst X0.here hx rfl (hb hby at_45) ?_
      exact k
    exact bt0_46 hw hC X0 e0 O0 N0 (by omega) (by omega) hf
  · rw [if_neg hc5] at hf
    refine Gl.on (B := T0.setTop (mkF m 46 #[.val (.int i0), .val (.int i1), .val (.int i2), .val (.int i3), .val (.int i4), .val (.int t0), .unset, .unset, .unset, .unset, .unset, .unset, .unset, .unset, .unset, .unset, .unset] [(.int (1 : Int32))])) (fun t k => ?_) ?_
    · show Steps p.tables e below (T0.setTop (mkF m 38 #[.val (.int i0), .val (.int i1), .val (.int i2), .val (.int i3), .val (.int i4), .val (.int t0), .unset, .unset, .unset, .unset, .unset, .unset, .unset, .unset, .unset, .unset, .unset] [(.int (i2 &&& (1 : Int32)))])) _
      refine XS.ifNo X0.here hx rfl (hb hby at_38) rfl ((if0 _ _).trans (feq hc5).1) ?_
      show Steps p.tables e below (T0.setTop (mkF m 41 #[.val (.int i0), .val (.int i1), .val (.int i2), .val (.int i3), .val (.int i4), .val (.int t0), .unset, .unset, .unset, .unset, .unset, .unset, .unset, .unset, .unset, .unset, .unset] [])) _
      refine XS.iconst X0.here hx rfl (hb hby at_41) ?_
      show Steps p.tables e below (T0.setTop (mkF m 42 #[.val (.int i0), .val (.int i1), .val (.int i2), .val (.int i3), .val (.int i4), .val (.int t0), .unset, .unset, .unset, .unset, .unset, .unset, .unset, .unset, .unset, .unset, .unset] [(.int (1 : Int32))])) _
      refine XS.goto X0.here hx rfl (pc0 := 42) (pc' := 46) rfl (hb hby at_42) (by decide) (by decide) ?_
      exact k
    exact bt0_46 hw hC X0 e0 O0 N0 (by omega) (by omega) hf
def b0_21 (D : Hp) (i1 : Int32) (i2 : Int32) (i3 : Int32) (t0 : Int32) : Option (Int32 × Hp) :=
  if i3 = (2 : Int32) then (b0_33 D i1 i2 i3 t0 (1 : Int32)) else (b0_33 D i1 i2 i3 t0 (2 : Int32))
set_option maxRecDepth 65536 in
set_option maxHeartbeats 40000000 in
theorem bt0_21 {p : Program} {l : Launch} {e : Env} {s : State} {m : MethodId} {args : Array Value} {below : List Frame} {meth : Method} {c : Code} {Z : State} {a0 : Array Value} {n0 : Nat} {D' : Hp} {r : Int32} {T0 : State} {locs : List Loc} {cells slots : Nat} {h0 : Heap} {D : Hp} {i0 : Int32} {i1 : Int32} {i2 : Int32} {i3 : Int32} {t0 : Int32} (hw : ∀ d ∈ tables_1, d.before a0 Z = true) (hC : Cx p s m meth c Z code maxLocals ret "com/example/planar_drawing_kit/planardrawingkit/inspect/SweepLineSwapWithAbovePinLaw" "law") (X0 : Stand p l e room_1 s m args below meth c T0 locs cells slots) (e0 : T0.heap = h0) (O0 : Ow Kt1 Z h0 n0 D) (N0 : Fr n0 locs) (hcc : cells ≤ 0) (hss : slots ≤ 0) (hf : b0_21 D i1 i2 i3 t0 = some (r, D')) : Gl p e below s 40 384 (Qw Kt1 Z n0 (some (.int r)) D') (T0.setTop (mkF m 21 #[.val (.int i0), .val (.int i1), .val (.int i2), .val (.int i3), .unset, .unset, .unset, .unset, .unset, .unset, .unset, .unset, .unset, .unset, .unset, .unset, .unset] [(.int t0)])) := by
  obtain ⟨hx, hZ, hby, hml, hown, hnm, hret, hlk⟩ := id hC
  have hml : c.maxLocals = 17 := hml
  rw [b0_21] at hf
  refine Gl.on (B := T0.setTop (mkF m 25 #[.val (.int i0), .val (.int i1), .val (.int i2), .val (.int i3), .val (.int t0), .unset, .unset, .unset, .unset, .unset, .unset, .unset, .unset, .unset, .unset, .unset, .unset] [(.int (2 : Int32)), (.int i3)])) (fun t k => ?_) ?_
  · show Steps p.tables e below (T0.setTop (mkF m 21 #[.val (.int i0), .val (.int i1), .val (.int i2), .val (.int i3), .unset, .unset, .unset, .unset, .unset, .unset, .unset, .unset, .unset, .unset, .unset, .unset, .unset] [(.int t0)])) _
    refine XS.istore X0.here hx rfl (hb hby at_21) rfl (l' := #[.val (.int i0), .val (.int i1), .val (.int i2), .val (.int i3), .val (.int t0), .unset, .unset, .unset, .unset, .unset, .unset, .unset, .unset, .unset, .unset, .unset, .unset]) rfl ?_
    show Steps p.tables e below (T0.setTop (mkF m 23 #[.val (.int i0), .val (.int i1), .val (.int i2), .val (.int i3), .val (.int t0), .unset, .unset, .unset, .unset, .unset, .unset, .unset, .unset, .unset, .unset, .unset, .unset] [])) _
    refine XS.iloadN X0.here hx rfl (hb hby at_23) rfl ?_
    show Steps p.tables e below (T0.setTop (mkF m 24 #[.val (.int i0), .val (.int i1), .val (.int i2), .val (.int i3), .val (.int t0), .unset, .unset, .unset, .unset, .unset, .unset, .unset, .unset, .unset, .unset, .unset, .unset] [(.int i3)])) _
    refine XS.iconst X0.here hx rfl (hb hby at_24) ?_
    exact k
  by_cases hc4 : i3 = (2 : Int32)
  · rw [if_pos hc4] at hf
    refine Gl.on (B := T0.setTop (mkF m 33 #[.val (.int i0), .val (.int i1), .val (.int i2), .val (.int i3), .val (.int t0), .unset, .unset, .unset, .unset, .unset, .unset, .unset, .unset, .unset, .unset, .unset, .unset] [(.int (1 : Int32))])) (fun t k => ?_) ?_
    · show Steps p.tables e below (T0.setTop (mkF m 25 #[.val (.int i0), .val (.int i1), .val (.int i2), .val (.int i3), .val (.int t0), .unset, .unset, .unset, .unset, .unset, .unset, .unset, .unset, .unset, .unset, .unset, .unset] [(.int (2 : Int32)), (.int i3)])) _
      refine XS.icmpNo X0.here hx rfl (hb hby at_25) rfl (teq hc4).2 ?_
      show Steps p.tables e below (T0.setTop (mkF m 28 #[.val (.int i0), .val (.int i1), .val (.int i2), .val (.int i3), .val (.int t0), .unset, .unset, .unset, .unset, .unset, .unset, .unset, .unset, .unset, .unset, .unset, .unset] [])) _
      refine XS.iconst X0.here hx rfl (hb hby at_28) ?_
      show Steps p.tables e below (T0.setTop (mkF m 29 #[.val (.int i0), .val (.int i1), .val (.int i2), .val (.int i3), .val (.int t0), .unset, .unset, .unset, .unset, .unset, .unset, .unset, .unset, .unset, .unset, .unset, .unset] [(.int (1 : Int32))])) _
      refine XS.goto X0.here hx rfl (pc0 := 29) (pc' := 33) rfl (hb hby at_29) (by decide) (by decide) ?_
      exact k
    exact bt0_33 hw hC X0 e0 O0 N0 (by omega) (by omega) hf
  · rw [if_neg hc4] at hf
    refine Gl.on (B := T0.setTop (mkF m 33 #[.val (.int i0), .val (.int i1), .val (.int i2), .val (.int i3), .val (.int t0), .unset, .unset, .unset, .unset, .unset, .unset, .unset, .unset, .unset, .unset, .unset, .unset] [(.int (2 : Int32))])) (fun t k => ?_) ?_
    · show Steps p.tables e below (T0.setTop (mkF m 25 #[.val (.int i0), .val (.int i1), .val (.int i2), .val (.int i3), .val (.int t0), .unset, .unset, .unset, .unset, .unset, .unset, .unset, .unset, .unset, .unset, .unset, .unset] [(.int (2 : Int32)), (.int i3)])) _
      refine XS.icmpYes X0.here hx rfl (pc0 := 25) (pc' := 32) rfl (hb hby at_25) rfl (feq hc4).2 (by decide) (by decide) ?_
      show Steps p.tables e below (T0.setTop (mkF m 32 #[.val (.int i0), .val (.int i1), .val (.int i2), .val (.int i3), .val (.int t0), .unset, .unset, .unset, .unset, .unset, .unset, .unset, .unset, .unset, .unset, .unset, .unset] [])) _
      refine XS.iconst X0.here hx rfl (hb hby at_32) ?_
      exact k
    exact bt0_33 hw hC X0 e0 O0 N0 (by omega) (by omega) hf
def f0 (D : Hp) (i0 : Int32) (i1 : Int32) : Option (Int32 × Hp) :=
  own_let ((i0 &&& (2147483647 : Int32)) % (6 : Int32)) fun v1 =>
  own_let (v1 / (2 : Int32)) fun v2 =>
  if v2 = (0 : Int32) then (b0_21 D i1 v1 v2 (1 : Int32)) else (b0_21 D i1 v1 v2 (0 : Int32))
theorem ef_0 (m : MethodId) (i0 : Int32) (i1 : Int32) : entryFrame m #[(.int i0), (.int i1)] maxLocals = mkF m 0 #[.val (.int i0), .val (.int i1), .unset, .unset, .unset, .unset, .unset, .unset, .unset, .unset, .unset, .unset, .unset, .unset, .unset, .unset, .unset] [] := by first | (simp [entryFrame, mkF, argsToLocals, Value.category, maxLocals]; done) | rfl
set_option maxRecDepth 65536 in
set_option maxHeartbeats 40000000 in
theorem ct0 {l : Launch} {Z : State} {a0 : Array Value} (hw : ∀ d ∈ tables_1, d.before a0 Z = true) {n0 : Nat} {D D' : Hp} {i0 : Int32} {i1 : Int32} {r : Int32} (hf : f0 D i0 i1 = some (r, D')) :
    Ct Kt1 l Z x (.code x code maxLocals ret) room_1 n0 D #[(.int i0), (.int i1)] (some (.int r)) D' := by
  refine Ct.of (plainFor_of_name pn_0) ?_
  intro p e s m below meth c T0 h0 hC X0 e0 O0
  obtain ⟨hx, hZ, hby, hml, hown, hnm, hret, hlk⟩ := id hC
  have hml : c.maxLocals = 17 := hml
  have hown : s.vm.findClass "com/example/planar_drawing_kit/planardrawingkit/inspect/SweepLineSwapWithAbovePinLaw" = some m.cls := hown
  have hnm : meth.name = "law" := hnm
  have N0 := Fr.nil n0
  refine Gl.on (fun t k => castTop (ef_0 m i0 i1) k) ?_
  rw [f0] at hf
  obtain ⟨v1, hv1, hf⟩ := own_letE hf
  obtain ⟨v2, hv2, hf⟩ := own_letE hf
  refine Gl.on (B := T0.setTop (mkF m 13 #[.val (.int i0), .val (.int i1), .val (.int v1), .val (.int v2), .unset, .unset, .unset, .unset, .unset, .unset, .unset, .unset, .unset, .unset, .unset, .unset, .unset] [(.int v2)])) (fun t k => ?_) ?_
  · show Steps p.tables e below (T0.setTop (mkF m 0 #[.val (.int i0), .val (.int i1), .unset, .unset, .unset, .unset, .unset, .unset, .unset, .unset, .unset, .unset, .unset, .unset, .unset, .unset, .unset] [])) _
    refine XS.iloadN X0.here hx rfl (hb hby at_0) rfl ?_
    show Steps p.tables e below (T0.setTop (mkF m 1 #[.val (.int i0), .val (.int i1), .unset, .unset, .unset, .unset, .unset, .unset, .unset, .unset, .unset, .unset, .unset, .unset, .unset, .unset, .unset] [(.int i0)])) _
    refine X0.ldcInt hx hown (mvT hZ (hw _ (List.mem_of_getElem? (i := 0) rfl))) (g := (mkF m 1 #[.val (.int i0), .val (.int i1), .unset, .unset, .unset, .unset, .unset, .unset, .unset, .unset, .unset, .unset, .unset, .unset, .unset, .unset, .unset] [(.int i0)])) rfl (hb hby at_1) _ ?_
    show Steps p.tables e below (T0.setTop (mkF m 3 #[.val (.int i0), .val (.int i1), .unset, .unset, .unset, .unset, .unset, .unset, .unset, .unset, .unset, .unset, .unset, .unset, .unset, .unset, .unset] [(.int (2147483647 : Int32)), (.int i0)])) _
    refine XS.iand X0.here hx rfl (hb hby at_3) rfl ?_
    show Steps p.tables e below (T0.setTop (mkF m 4 #[.val (.int i0), .val (.int i1), .unset, .unset, .unset, .unset, .unset, .unset, .unset, .unset, .unset, .unset, .unset, .unset, .unset, .unset, .unset] [(.int (i0 &&& (2147483647 : Int32)))])) _
    refine XS.bipush X0.here hx rfl (hb hby at_4) ?_
    show Steps p.tables e below (T0.setTop (mkF m 6 #[.val (.int i0), .val (.int i1), .unset, .unset, .unset, .unset, .unset, .unset, .unset, .unset, .unset, .unset, .unset, .unset, .unset, .unset, .unset] [(.int (6 : Int32)), (.int (i0 &&& (2147483647 : Int32)))])) _
    refine iremM X0 hx rfl (hb hby at_6) rfl (by decide) ?_
    show Steps p.tables e below (T0.setTop (mkF m 7 #[.val (.int i0), .val (.int i1), .unset, .unset, .unset, .unset, .unset, .unset, .unset, .unset, .unset, .unset, .unset, .unset, .unset, .unset, .unset] [(.int ((i0 &&& (2147483647 : Int32)) % (6 : Int32)))])) _
    refine own_to (congrArg (fun z => T0.setTop (mkF m 7 #[.val (.int i0), .val (.int i1), .unset, .unset, .unset, .unset, .unset, .unset, .unset, .unset, .unset, .unset, .unset, .unset, .unset, .unset, .unset] [(.int z)])) hv1) ?_
    show Steps p.tables e below (T0.setTop (mkF m 7 #[.val (.int i0), .val (.int i1), .unset, .unset, .unset, .unset, .unset, .unset, .unset, .unset, .unset, .unset, .unset, .unset, .unset, .unset, .unset] [(.int v1)])) _
    refine XS.istoreN X0.here hx rfl (hb hby at_7) rfl (l' := #[.val (.int i0), .val (.int i1), .val (.int v1), .unset, .unset, .unset, .unset, .unset, .unset, .unset, .unset, .unset, .unset, .unset, .unset, .unset, .unset]) rfl ?_
    show Steps p.tables e below (T0.setTop (mkF m 8 #[.val (.int i0), .val (.int i1), .val (.int v1), .unset, .unset, .unset, .unset, .unset, .unset, .unset, .unset, .unset, .unset, .unset, .unset, .unset, .unset] [])) _
    refine XS.iloadN X0.here hx rfl (hb hby at_8) rfl ?_
    show Steps p.tables e below (T0.setTop (mkF m 9 #[.val (.int i0), .val (.int i1), .val (.int v1), .unset, .unset, .unset, .unset, .unset, .unset, .unset, .unset, .unset, .unset, .unset, .unset, .unset, .unset] [(.int v1)])) _
    refine XS.iconst X0.here hx rfl (hb hby at_9) ?_
    show Steps p.tables e below (T0.setTop (mkF m 10 #[.val (.int i0), .val (.int i1), .val (.int v1), .unset, .unset, .unset, .unset, .unset, .unset, .unset, .unset, .unset, .unset, .unset, .unset, .unset, .unset] [(.int (2 : Int32)), (.int v1)])) _
    refine XS.idiv X0.here hx rfl (hb hby at_10) rfl (by decide) ?_
    show Steps p.tables e below (T0.setTop (mkF m 11 #[.val (.int i0), .val (.int i1), .val (.int v1), .unset, .unset, .unset, .unset, .unset, .unset, .unset, .unset, .unset, .unset, .unset, .unset, .unset, .unset] [(.int (v1 / (2 : Int32)))])) _
    refine own_to (congrArg (fun z => T0.setTop (mkF m 11 #[.val (.int i0), .val (.int i1), .val (.int v1), .unset, .unset, .unset, .unset, .unset, .unset, .unset, .unset, .unset, .unset, .unset, .unset, .unset, .unset] [(.int z)])) hv2) ?_
    show Steps p.tables e below (T0.setTop (mkF m 11 #[.val (.int i0), .val (.int i1), .val (.int v1), .unset, .unset, .unset, .unset, .unset, .unset, .unset, .unset, .unset, .unset, .unset, .unset, .unset, .unset] [(.int v2)])) _
    refine XS.istoreN X0.here hx rfl (hb hby at_11) rfl (l' := #[.val (.int i0), .val (.int i1), .val (.int v1), .val (.int v2), .unset, .unset, .unset, .unset, .unset, .unset, .unset, .unset, .unset, .unset, .unset, .unset, .unset]) rfl ?_
    show Steps p.tables e below (T0.setTop (mkF m 12 #[.val (.int i0), .val (.int i1), .val (.int v1), .val (.int v2), .unset, .unset, .unset, .unset, .unset, .unset, .unset, .unset, .unset, .unset, .unset, .unset, .unset] [])) _
    refine XS.iloadN X0.here hx rfl (hb hby at_12) rfl ?_
    exact k
  by_cases hc3 : v2 = (0 : Int32)
  · rw [if_pos hc3] at hf
    refine Gl.on (B := T0.setTop (mkF m 21 #[.val (.int i0), .val (.int i1), .val (.int v1), .val (.int v2), .unset, .unset, .unset, .unset, .unset, .unset, .unset, .unset, .unset, .unset, .unset, .unset, .unset] [(.int (1 : Int32))])) (fun t k => ?_) ?_
    · show Steps p.tables e below (T0.setTop (mkF m 13 #[.val (.int i0), .val (.int i1), .val (.int v1), .val (.int v2), .unset, .unset, .unset, .unset, .unset, .unset, .unset, .unset, .unset, .unset, .unset, .unset, .unset] [(.int v2)])) _
      refine XS.ifNo X0.here hx rfl (hb hby at_13) rfl ((if0 _ _).trans (teq hc3).2) ?_
      show Steps p.tables e below (T0.setTop (mkF m 16 #[.val (.int i0), .val (.int i1), .val (.int v1), .val (.int v2), .unset, .unset, .unset, .unset, .unset, .unset, .unset, .unset, .unset, .unset, .unset, .unset, .unset] [])) _
      refine XS.iconst X0.here hx rfl (hb hby at_16) ?_
      show Steps p.tables e below (T0.setTop (mkF m 17 #[.val (.int i0), .val (.int i1), .val (.int v1), .val (.int v2), .unset, .unset, .unset, .unset, .unset, .unset, .unset, .unset, .unset, .unset, .unset, .unset, .unset] [(.int (1 : Int32))])) _
      refine XS.goto X0.here hx rfl (pc0 := 17) (pc' := 21) rfl (hb hby at_17) (by decide) (by decide) ?_
      exact k
    exact bt0_21 hw hC X0 e0 O0 N0 (by omega) (by omega) hf
  · rw [if_neg hc3] at hf
    refine Gl.on (B := T0.setTop (mkF m 21 #[.val (.int i0), .val (.int i1), .val (.int v1), .val (.int v2), .unset, .unset, .unset, .unset, .unset, .unset, .unset, .unset, .unset, .unset, .unset, .unset, .unset] [(.int (0 : Int32))])) (fun t k => ?_) ?_
    · show Steps p.tables e below (T0.setTop (mkF m 13 #[.val (.int i0), .val (.int i1), .val (.int v1), .val (.int v2), .unset, .unset, .unset, .unset, .unset, .unset, .unset, .unset, .unset, .unset, .unset, .unset, .unset] [(.int v2)])) _
      refine XS.ifYes X0.here hx rfl (pc0 := 13) (pc' := 20) rfl (hb hby at_13) rfl ((if0 _ _).trans (feq hc3).2) (by decide) (by decide) ?_
      show Steps p.tables e below (T0.setTop (mkF m 20 #[.val (.int i0), .val (.int i1), .val (.int v1), .val (.int v2), .unset, .unset, .unset, .unset, .unset, .unset, .unset, .unset, .unset, .unset, .unset, .unset, .unset] [])) _
      refine XS.iconst X0.here hx rfl (hb hby at_20) ?_
      exact k
    exact bt0_21 hw hC X0 e0 O0 N0 (by omega) (by omega) hf
theorem own_fin (x : Int32) (n : Nat) (h0 : 0 ≤ x.toInt) (h1 : x.toInt < n) : ∃ p : Fin n, x = p.1.toInt32 :=
  ⟨⟨x.toNatClampNeg, by simp only [Int32.toNatClampNeg]; omega⟩, (back32 (by rw [Int32.lt_iff_toInt_lt]; have : (0 : Int32).toInt = 0 := rfl; omega)).1.symm⟩
theorem own_modr (x n : Int32) (hn : 0 < n.toInt) : 0 ≤ ((x &&& (2147483647 : Int32)) % n).toInt ∧ ((x &&& (2147483647 : Int32)) % n).toInt < n.toInt := by
  have e1 := c_and x (2147483647 : Int32) (by decide)
  have e2 := (c_irem (x &&& (2147483647 : Int32)) n n.toInt rfl).1 e1.1
  rw [e2]
  exact ⟨Int.emod_nonneg _ (by omega), Int.emod_lt_of_pos _ hn⟩
theorem own_mm (x n : Int32) (hn : 0 < n.toInt) : ((((x &&& (2147483647 : Int32)) % n) &&& (2147483647 : Int32)) % n) = ((x &&& (2147483647 : Int32)) % n) := by
  obtain ⟨h1, h2⟩ := own_modr x n hn
  have e0 : ((2 ^ 31 : Nat) : Int) = 2147483648 := by decide
  have u := Int32.toInt_lt ((x &&& (2147483647 : Int32)) % n)
  have e1 : (((x &&& (2147483647 : Int32)) % n) &&& (2147483647 : Int32)).toInt = ((x &&& (2147483647 : Int32)) % n).toInt := by
    rw [c_mask _ 2147483647 31 (by decide) (by decide), e0]; omega
  have e2 : (((x &&& (2147483647 : Int32)) % n) &&& (2147483647 : Int32)) = ((x &&& (2147483647 : Int32)) % n) := Int32.toInt_inj.mp e1
  rw [e2]
  apply Int32.toInt_inj.mp
  rw [(c_irem _ n n.toInt rfl).1 h1]
  exact Int.emod_eq_of_lt h1 h2
theorem own_ex {α : Type} {o : Option (Int32 × α)} (h : o.map Prod.fst = some (1 : Int32)) : ∃ D', o = some ((1 : Int32), D') := by
  cases o with
  | none => cases h
  | some q => obtain ⟨x, D⟩ := q; exact ⟨D, by cases h; rfl⟩
theorem own_and (a m : Int32) (hm : (3 : Int32) &&& m = m) : (a &&& (3 : Int32)) &&& m = a &&& m := by rw [Int32.and_assoc, hm]
theorem own_f0 (a b : Int32) : f0 [] ((a &&& (2147483647 : Int32)) % (6 : Int32)) (b &&& (3 : Int32)) = f0 [] a b := by
  simp only [f0, b0_21, b0_33, b0_46, b0_60, b0_74, b0_87, own_mm a 6 (by decide), own_and b 1 (by decide), own_and b 2 (by decide)]
set_option maxRecDepth 100000 in
theorem own_all : ∀ (p : Fin 6) (q : Fin 4), (f0 [] p.1.toInt32 q.1.toInt32).map Prod.fst = some (1 : Int32) := by decide +kernel
theorem law_ok (i0 i1 : Int32) : ∃ D', f0 [] i0 i1 = some ((1 : Int32), D') := by
  have e3 : (i1 &&& (3 : Int32)).toInt = i1.toInt % 4 := c_mask i1 3 2 (by decide) (by decide)
  obtain ⟨q, hq⟩ := own_fin (i1 &&& (3 : Int32)) 4 (by omega) (by omega)
  obtain ⟨a1, a2⟩ := own_modr i0 6 (by decide)
  obtain ⟨p, hp⟩ := own_fin _ 6 a1 a2
  rw [← own_f0, hp, hq]
  exact own_ex (own_all p q)
set_option maxRecDepth 65536 in
set_option maxHeartbeats 40000000 in
theorem comes_1 {Post : Tables → Env → Array Value → State → Outcome → State → Prop} (hpost : ∀ tb e args s v u, (limb_1_1.after args s (.returned v) u = true ∧ limb_1_2.after args s (.returned v) u = true ∧ True) → FrameEnd s (.returned v) u (Jvm.fieldLocs frame_1_writes args s ++ Jvm.arrayLocs frame_1_arrays args s ++ Jvm.staticLocs frame_1_statics s) 40 384 → Post tb e args s (.returned v) u) :
    ArmFor flags0 classFile x code maxLocals ret World_1 tables_1 room_1 Calls_1 rest_1 Pre_1 Post := by
  intro l hfl _ _ p e ha hc hk s m args below hf hA hF happ hP
  obtain ⟨hcalls, hrest, hpre⟩ := hP
  obtain ⟨-, -, -, hnamed, -, -, -, hat⟩ := (Spec.applies_iff hf).mp happ
  obtain ⟨hg, hn⟩ := and_e (Cond.before_iff.mp (show (Jvm.Cond.and given_1 narrow_1).before args s = true from hpre))
  obtain ⟨g0, hg⟩ := and_e hg
  obtain ⟨gg0, hg⟩ := and_e hg
  have gg1 := hg
  obtain ⟨w0, w1, rfl⟩ : ∃ w0 w1 : Value, args = #[w0, w1] := by
    have hs : args.size = 2 := by simpa [Cond.value, given_1] using g0
    obtain ⟨L⟩ := args
    match L, hs with
    | [w0, w1], _ => exact ⟨w0, w1, rfl⟩
  have hw := fun d (hd : d ∈ tables_1) => atoms_spec (ws := Jvm.Cond.code x code maxLocals ret :: tables_1) hat d (List.mem_cons_of_mem _ hd)
  obtain ⟨i0, ei0⟩ := is_v gg0
  obtain rfl : w0 = (.int i0) := Option.some.inj ei0
  obtain ⟨i1, ei1⟩ := is_v gg1
  obtain rfl : w1 = (.int i1) := Option.some.inj ei1
  obtain ⟨D', hlaw⟩ := law_ok i0 i1
  obtain ⟨n, o, h1, h2, h3, _, L, rfl, ⟨rfl, N, -⟩, hq⟩ := ct0 (l := l) hw hlaw s.heap tables_1 (own_ow0 s.heap) p e ha hc hk s m _ below hf ((Spec.applies_iff_loose hf).mp happ).1 ⟨rfl, State.Warmed39.refl s, rfl⟩ trivial
  exact ⟨n, _, h1, h2, h3, hpost _ _ _ _ _ _ ⟨Cond.after_iff.mpr rfl, Cond.after_iff.mpr (eq_i res_at (Term.int_eval (1)) rfl), trivial⟩ ⟨hq.1, hq.2.1, (hq.2.2.sift fun y hy => Or.inr (N y hy)).mono (by decide) (by decide)⟩⟩
theorem main_1_1 : Claimed_1_1 := comes_1 fun _ _ _ _ _ _ h hF => ⟨h.1, hF⟩
theorem main_1_2 : Claimed_1_2 := comes_1 fun _ _ _ _ _ _ h hF => ⟨h.2.1, hF⟩
end Jvm.Pilot.@@N@@
namespace Jvm.Pilot.@@N@@
open Jvm Jvm.ClassFile Sem Op Lib Jvm.Free Jvm.Stand Jvm.Pilot.@@N@@.Jvm.D
/-! MADE BY PROGRAM (witnessworld.py) out of the Statement's table words and the real class files: 12 classes; the members and pool entries that the words name. The judged class is class 1, her method 1. -/
namespace start1
open Jvm.ClassFile
def u (s : String) : CpInfo := .utf8 (stringToUtf16 s)
/-- a pool by its gaps: so many unusable entries, then the entry; so many at the end -/
def gap : Nat → List CpInfo → List CpInfo
  | 0, r => r
  | n + 1, r => .unusable :: gap n r
def poolList (es : List (Nat × CpInfo)) (last : Nat) : List CpInfo := es.foldr (fun e r => gap e.1 (e.2 :: r)) (gap last [])
def pool (es : List (Nat × CpInfo)) (last : Nat) : Array CpInfo := ⟨poolList es last⟩
def fileOf (pool : Array CpInfo) (this : Nat) (attrs : Array Attribute := #[]) (ms : Array MethodInfo := #[]) (fl : Nat := 33) (sup : Nat := 0) (ifs : Array Nat := #[]) (fds : Array FieldInfo := #[]) : ClassFile where
  minorVersion := 0
  majorVersion := 65
  constantPool := pool
  accessFlags := fl
  thisClass := this
  superClass := sup
  interfaces := ifs
  fields := fds
  methods := ms
  attributes := attrs
def plain (name : String) (sup : Option ClassId) : Class where
  name := name
  kind := .ordinary
  loader := none
  accessFlags := 33
  super := sup
  interfaces := #[]
  cf := none
  fields := #[]
  methods := #[]
  instanceTypes := #[]
  staticTypes := #[]
  resolved := #[]
  callSites := []
  init := .initialized
  statics := none
  mirror := none

def pool0 : Array CpInfo := pool [(5, u "<init>"), (0, u "()V"), (1, .class_ 10), (1, u "java/lang/Object")] 113

def k0c0 : Code := { maxStack := 0, maxLocals := 1, code := object_method_1_code, exceptionTable := #[], attributes := #[] }
def k0m0 : Method := { name := "<init>", desc := "()V", sig := { parameters := [], returnType := none }, accessFlags := 1, code := some k0c0 }
/-- java/lang/Object -/
def k0 : Class := { plain "java/lang/Object" none with
  accessFlags := 33
  interfaces := #[]
  cf := some (fileOf pool0 8 #[] #[{ accessFlags := 1, nameIndex := 5, descriptorIndex := 6, attributes := #[] }] 33 0 #[] #[])
  fields := #[]
  methods := #[k0m0]
  instanceTypes := #[]
  staticTypes := #[]
  resolved := Array.replicate 124 none
  statics := none }

def pool1 : Array CpInfo := pool [(2, .class_ 4), (1, u "java/lang/Object"), (0, u "<init>"), (0, u "()V"), (0, .integer 2147483647), (0, .class_ 9), (0, u "com/example/planar_drawing_kit/planardrawingkit/inspect/SweepLine"), (0, .methodref 8 11), (0, .nameAndType 5 12), (0, u "(I)V"), (0, .methodref 8 14), (0, .nameAndType 15 16), (0, u "insertAbove"), (0, u "(II)V"), (0, .methodref 8 18), (0, .nameAndType 19 12), (0, u "swapWithAbove"), (0, .methodref 8 21), (0, .nameAndType 22 23), (0, u "lowest"), (0, u "()I"), (0, .methodref 8 25), (0, .nameAndType 26 23), (0, u "highest"), (0, .methodref 8 28), (0, .nameAndType 29 30), (0, u "above"), (0, u "(I)I"), (0, .methodref 8 32), (0, .nameAndType 33 30), (0, u "below"), (0, .class_ 35), (0, u "com/example/planar_drawing_kit/planardrawingkit/inspect/SweepLineSwapWithAbovePinLaw"), (2, u "law"), (0, u "(II)Z")] 3

def k1m0 : Method := { name := "<init>", desc := "()V", sig := { parameters := [], returnType := none }, accessFlags := 1, code := none }
def k1c1 : Code := { maxStack := 3, maxLocals := 17, code := code, exceptionTable := #[], attributes := #[] }
def k1m1 : Method := { name := "law", desc := "(II)Z", sig := { parameters := [.int, .int], returnType := some .boolean }, accessFlags := 9, code := some k1c1 }
/-- com/example/planar_drawing_kit/planardrawingkit/inspect/SweepLineSwapWithAbovePinLaw -/
def k1 : Class := { plain "com/example/planar_drawing_kit/planardrawingkit/inspect/SweepLineSwapWithAbovePinLaw" (some 0) with
  accessFlags := 49
  interfaces := #[]
  cf := some (fileOf pool1 34 #[] #[{ accessFlags := 1, nameIndex := 5, descriptorIndex := 6, attributes := #[] }, { accessFlags := 9, nameIndex := 38, descriptorIndex := 39, attributes := #[] }] 49 2 #[] #[])
  fields := #[]
  methods := #[k1m0, k1m1]
  instanceTypes := #[]
  staticTypes := #[]
  resolved := Array.replicate 43 none
  statics := none }

def pool2 : Array CpInfo := pool [(1, .methodref 2 3), (0, .class_ 4), (0, .nameAndType 5 6), (0, u "java/lang/Object"), (0, u "<init>"), (0, u "()V"), (0, .fieldref 8 9), (0, .class_ 10), (0, .nameAndType 11 12), (0, u "com/example/planar_drawing_kit/planardrawingkit/inspect/SweepLine"), (0, u "edgeAt"), (0, u "[I"), (0, .fieldref 8 14), (0, .nameAndType 15 12), (0, u "left"), (0, .fieldref 8 17), (0, .nameAndType 18 12), (0, u "right"), (0, .fieldref 8 20), (0, .nameAndType 21 12), (0, u "parent"), (0, .fieldref 8 23), (0, .nameAndType 24 12), (0, u "priority"), (0, .fieldref 8 26), (0, .nameAndType 27 12), (0, u "below"), (0, .fieldref 8 29), (0, .nameAndType 30 12), (0, u "above"), (0, .fieldref 8 32), (0, .nameAndType 33 34), (0, u "root"), (0, u "I"), (0, .fieldref 8 36), (0, .nameAndType 37 34), (0, u "lowest"), (0, .fieldref 8 39), (0, .nameAndType 40 34), (0, u "highest"), (0, .fieldref 8 42), (0, .nameAndType 43 34), (0, u "free"), (0, .integer 625341585), (0, .fieldref 8 46), (0, .nameAndType 47 34), (0, u "random"), (0, .fieldref 8 49), (0, .nameAndType 50 12), (0, u "nodeOf"), (0, .methodref 52 53), (0, .class_ 54), (0, .nameAndType 55 56), (0, u "java/util/Arrays"), (0, u "fill"), (0, u "([II)V"), (0, .methodref 8 58), (0, .nameAndType 59 60), (0, u "edgeOf"), (0, u "(I)I"), (6, .methodref 8 68), (0, .nameAndType 69 60), (0, u "newNode"), (0, .methodref 8 71), (0, .nameAndType 72 73), (0, u "rotateUp"), (0, u "(I)V"), (0, .methodref 8 75), (0, .nameAndType 76 77), (0, u "replaceChild"), (0, u "(III)V"), (0, .fieldref 8 79), (0, .nameAndType 80 34), (0, u "used"), (0, .methodref 8 82), (0, .nameAndType 83 6), (0, u "grow"), (0, .methodref 85 86), (0, .class_ 87), (0, .nameAndType 88 89), (0, u "java/lang/Math"), (0, u "max"), (0, u "(II)I"), (0, .methodref 52 91), (0, .nameAndType 92 93), (0, u "copyOf"), (0, u "([II)[I"), (0, u "NONE"), (4, u "()I"), (3, u "insertAbove"), (0, u "(II)V"), (1, u "swapWithAbove")] 2

def k2c0 : Code := { maxStack := 2, maxLocals := 2, code := prog_99_method_1_code, exceptionTable := #[], attributes := #[] }
def k2m0 : Method := { name := "<init>", desc := "(I)V", sig := { parameters := [.int], returnType := none }, accessFlags := 0, code := some k2c0 }
def k2c1 : Code := { maxStack := 2, maxLocals := 1, code := prog_99_method_2_code, exceptionTable := #[], attributes := #[] }
def k2m1 : Method := { name := "lowest", desc := "()I", sig := { parameters := [], returnType := some .int }, accessFlags := 0, code := some k2c1 }
def k2c2 : Code := { maxStack := 2, maxLocals := 1, code := prog_99_method_3_code, exceptionTable := #[], attributes := #[] }
def k2m2 : Method := { name := "highest", desc := "()I", sig := { parameters := [], returnType := some .int }, accessFlags := 0, code := some k2c2 }
def k2c3 : Code := { maxStack := 4, maxLocals := 2, code := prog_99_method_4_code, exceptionTable := #[], attributes := #[] }
def k2m3 : Method := { name := "below", desc := "(I)I", sig := { parameters := [.int], returnType := some .int }, accessFlags := 0, code := some k2c3 }
def k2c4 : Code := { maxStack := 4, maxLocals := 2, code := prog_99_method_5_code, exceptionTable := #[], attributes := #[] }
def k2m4 : Method := { name := "above", desc := "(I)I", sig := { parameters := [.int], returnType := some .int }, accessFlags := 0, code := some k2c4 }
def k2c5 : Code := { maxStack := 4, maxLocals := 6, code := prog_99_method_7_code, exceptionTable := #[], attributes := #[] }
def k2m5 : Method := { name := "insertAbove", desc := "(II)V", sig := { parameters := [.int, .int], returnType := none }, accessFlags := 0, code := some k2c5 }
def k2c6 : Code := { maxStack := 3, maxLocals := 5, code := prog_99_method_9_code, exceptionTable := #[], attributes := #[] }
def k2m6 : Method := { name := "swapWithAbove", desc := "(I)V", sig := { parameters := [.int], returnType := none }, accessFlags := 0, code := some k2c6 }
def k2c7 : Code := { maxStack := 2, maxLocals := 2, code := prog_99_method_10_code, exceptionTable := #[], attributes := #[] }
def k2m7 : Method := { name := "edgeOf", desc := "(I)I", sig := { parameters := [.int], returnType := some .int }, accessFlags := 2, code := some k2c7 }
def k2c8 : Code := { maxStack := 4, maxLocals := 3, code := prog_99_method_11_code, exceptionTable := #[], attributes := #[] }
def k2m8 : Method := { name := "newNode", desc := "(I)I", sig := { parameters := [.int], returnType := some .int }, accessFlags := 2, code := some k2c8 }
def k2c9 : Code := { maxStack := 3, maxLocals := 2, code := prog_99_method_12_code, exceptionTable := #[], attributes := #[] }
def k2m9 : Method := { name := "grow", desc := "()V", sig := { parameters := [], returnType := none }, accessFlags := 2, code := some k2c9 }
def k2c10 : Code := { maxStack := 4, maxLocals := 4, code := prog_99_method_13_code, exceptionTable := #[], attributes := #[] }
def k2m10 : Method := { name := "rotateUp", desc := "(I)V", sig := { parameters := [.int], returnType := none }, accessFlags := 2, code := some k2c10 }
def k2c11 : Code := { maxStack := 3, maxLocals := 4, code := prog_99_method_14_code, exceptionTable := #[], attributes := #[] }
def k2m11 : Method := { name := "replaceChild", desc := "(III)V", sig := { parameters := [.int, .int, .int], returnType := none }, accessFlags := 2, code := some k2c11 }
/-- com/example/planar_drawing_kit/planardrawingkit/inspect/SweepLine -/
def k2 : Class := { plain "com/example/planar_drawing_kit/planardrawingkit/inspect/SweepLine" (some 0) with
  accessFlags := 32
  interfaces := #[]
  cf := some (fileOf pool2 8 #[] #[{ accessFlags := 0, nameIndex := 5, descriptorIndex := 73, attributes := #[] }, { accessFlags := 0, nameIndex := 37, descriptorIndex := 99, attributes := #[] }, { accessFlags := 0, nameIndex := 40, descriptorIndex := 99, attributes := #[] }, { accessFlags := 0, nameIndex := 27, descriptorIndex := 60, attributes := #[] }, { accessFlags := 0, nameIndex := 30, descriptorIndex := 60, attributes := #[] }, { accessFlags := 0, nameIndex := 103, descriptorIndex := 104, attributes := #[] }, { accessFlags := 0, nameIndex := 106, descriptorIndex := 73, attributes := #[] }, { accessFlags := 2, nameIndex := 59, descriptorIndex := 60, attributes := #[] }, { accessFlags := 2, nameIndex := 69, descriptorIndex := 60, attributes := #[] }, { accessFlags := 2, nameIndex := 83, descriptorIndex := 6, attributes := #[] }, { accessFlags := 2, nameIndex := 72, descriptorIndex := 73, attributes := #[] }, { accessFlags := 2, nameIndex := 76, descriptorIndex := 77, attributes := #[] }] 32 2 #[] #[{ accessFlags := 24, nameIndex := 94, descriptorIndex := 34, attributes := #[] }, { accessFlags := 18, nameIndex := 50, descriptorIndex := 12, attributes := #[] }, { accessFlags := 2, nameIndex := 11, descriptorIndex := 12, attributes := #[] }, { accessFlags := 2, nameIndex := 15, descriptorIndex := 12, attributes := #[] }, { accessFlags := 2, nameIndex := 18, descriptorIndex := 12, attributes := #[] }, { accessFlags := 2, nameIndex := 21, descriptorIndex := 12, attributes := #[] }, { accessFlags := 2, nameIndex := 24, descriptorIndex := 12, attributes := #[] }, { accessFlags := 2, nameIndex := 27, descriptorIndex := 12, attributes := #[] }, { accessFlags := 2, nameIndex := 30, descriptorIndex := 12, attributes := #[] }, { accessFlags := 2, nameIndex := 33, descriptorIndex := 34, attributes := #[] }, { accessFlags := 2, nameIndex := 37, descriptorIndex := 34, attributes := #[] }, { accessFlags := 2, nameIndex := 40, descriptorIndex := 34, attributes := #[] }, { accessFlags := 2, nameIndex := 80, descriptorIndex := 34, attributes := #[] }, { accessFlags := 2, nameIndex := 43, descriptorIndex := 34, attributes := #[] }, { accessFlags := 2, nameIndex := 47, descriptorIndex := 34, attributes := #[] }])
  fields := #[{ name := "NONE", type := .int, accessFlags := 24, slot := 0, constantValue := 0 }, { name := "nodeOf", type := (.array .int), accessFlags := 18, slot := 0, constantValue := 0 }, { name := "edgeAt", type := (.array .int), accessFlags := 2, slot := 1, constantValue := 0 }, { name := "left", type := (.array .int), accessFlags := 2, slot := 2, constantValue := 0 }, { name := "right", type := (.array .int), accessFlags := 2, slot := 3, constantValue := 0 }, { name := "parent", type := (.array .int), accessFlags := 2, slot := 4, constantValue := 0 }, { name := "priority", type := (.array .int), accessFlags := 2, slot := 5, constantValue := 0 }, { name := "below", type := (.array .int), accessFlags := 2, slot := 6, constantValue := 0 }, { name := "above", type := (.array .int), accessFlags := 2, slot := 7, constantValue := 0 }, { name := "root", type := .int, accessFlags := 2, slot := 8, constantValue := 0 }, { name := "lowest", type := .int, accessFlags := 2, slot := 9, constantValue := 0 }, { name := "highest", type := .int, accessFlags := 2, slot := 10, constantValue := 0 }, { name := "used", type := .int, accessFlags := 2, slot := 11, constantValue := 0 }, { name := "free", type := .int, accessFlags := 2, slot := 12, constantValue := 0 }, { name := "random", type := .int, accessFlags := 2, slot := 13, constantValue := 0 }]
  methods := #[k2m0, k2m1, k2m2, k2m3, k2m4, k2m5, k2m6, k2m7, k2m8, k2m9, k2m10, k2m11]
  instanceTypes := #[(.array .int), (.array .int), (.array .int), (.array .int), (.array .int), (.array .int), (.array .int), (.array .int), .int, .int, .int, .int, .int, .int]
  staticTypes := #[.int]
  resolved := Array.replicate 109 none
  statics := none }

def pool3 : Array CpInfo := pool [(2, .class_ 4), (1, u "java/lang/Object"), (0, u "<init>"), (0, u "()V"), (7, .class_ 16), (1, u "java/util/Arrays"), (57, .class_ 76), (1, u "java/util/Arrays$NaturalOrder"), (36, .class_ 115), (1, u "java/util/Arrays$LegacyMergeSort"), (1, u "Z"), (32, .methodref 151 152), (0, .class_ 153), (0, .nameAndType 154 155), (0, u "java/lang/System"), (0, u "arraycopy"), (0, u "(Ljava/lang/Object;ILjava/lang/Object;II)V"), (146, u "copyOf"), (1, .methodref 305 306), (0, .class_ 307), (0, .nameAndType 308 309), (0, u "java/lang/Math"), (0, u "min"), (0, u "(II)I"), (65, .class_ 376), (0, u "java/util/Arrays$ArrayList"), (68, u "$assertionsDisabled"), (269, u "MIN_ARRAY_SORT_GRAN"), (0, u "I"), (2, u "INSERTIONSORT_THRESHOLD"), (120, u "fill"), (4, u "([II)V"), (25, u "([II)[I"), (103, .class_ 976), (0, u "java/util/Arrays$ArrayItr")] 52

def k3m0 : Method := { name := "<init>", desc := "()V", sig := { parameters := [], returnType := none }, accessFlags := 2, code := none }
def k3c1 : Code := { maxStack := 3, maxLocals := 4, code := jdk_65_method_103_code, exceptionTable := #[], attributes := #[] }
def k3m1 : Method := { name := "fill", desc := "([II)V", sig := { parameters := [(.array .int), .int], returnType := none }, accessFlags := 9, code := some k3c1 }
def k3c2 : Code := { maxStack := 6, maxLocals := 3, code := jdk_65_method_123_code, exceptionTable := #[], attributes := #[] }
def k3m2 : Method := { name := "copyOf", desc := "([II)[I", sig := { parameters := [(.array .int), .int], returnType := some (.array .int) }, accessFlags := 9, code := some k3c2 }
/-- java/util/Arrays -/
def k3 : Class := { plain "java/util/Arrays" (some 0) with
  accessFlags := 49
  interfaces := #[]
  cf := some (fileOf pool3 14 #[.nestMembers #[975, 375, 113, 74]] #[{ accessFlags := 2, nameIndex := 5, descriptorIndex := 6, attributes := #[] }, { accessFlags := 9, nameIndex := 840, descriptorIndex := 845, attributes := #[] }, { accessFlags := 9, nameIndex := 302, descriptorIndex := 871, attributes := #[] }] 49 2 #[] #[{ accessFlags := 26, nameIndex := 715, descriptorIndex := 716, attributes := #[] }, { accessFlags := 26, nameIndex := 719, descriptorIndex := 716, attributes := #[] }, { accessFlags := 4120, nameIndex := 445, descriptorIndex := 117, attributes := #[] }])
  fields := #[{ name := "MIN_ARRAY_SORT_GRAN", type := .int, accessFlags := 26, slot := 0, constantValue := 0 }, { name := "INSERTIONSORT_THRESHOLD", type := .int, accessFlags := 26, slot := 1, constantValue := 0 }, { name := "$assertionsDisabled", type := .boolean, accessFlags := 4120, slot := 2, constantValue := 0 }]
  methods := #[k3m0, k3m1, k3m2]
  instanceTypes := #[]
  staticTypes := #[.int, .int, .boolean]
  resolved := Array.replicate 1029 none
  statics := none }

def pool4 : Array CpInfo := pool [(1, .class_ 2), (0, u "java/lang/Math"), (1, .class_ 6), (1, u "java/lang/Object"), (0, u "<init>"), (0, u "()V"), (89, .class_ 100), (1, u "java/lang/Math$RandomNumberGeneratorHolder"), (71, u "negativeZeroFloatBits"), (0, u "J"), (2, u "negativeZeroDoubleBits"), (21, u "max"), (2, u "min"), (43, u "$assertionsDisabled"), (0, u "Z"), (88, u "(II)I"), (2, u "twoToTheDoubleScaleDown"), (0, u "D"), (4, u "twoToTheDoubleScaleUp"), (9, u "E"), (3, u "PI"), (2, u "TAU"), (2, u "DEGREES_TO_RADIANS"), (0, u "RADIANS_TO_DEGREES")] 94

def k4m0 : Method := { name := "<init>", desc := "()V", sig := { parameters := [], returnType := none }, accessFlags := 2, code := none }
def k4c1 : Code := { maxStack := 2, maxLocals := 2, code := jdk_29_method_65_code, exceptionTable := #[], attributes := #[] }
def k4m1 : Method := { name := "max", desc := "(II)I", sig := { parameters := [.int, .int], returnType := some .int }, accessFlags := 9, code := some k4c1 }
def k4c2 : Code := { maxStack := 2, maxLocals := 2, code := jdk_29_method_69_code, exceptionTable := #[], attributes := #[] }
def k4m2 : Method := { name := "min", desc := "(II)I", sig := { parameters := [.int, .int], returnType := some .int }, accessFlags := 9, code := some k4c2 }
/-- java/lang/Math -/
def k4 : Class := { plain "java/lang/Math" (some 0) with
  accessFlags := 49
  interfaces := #[]
  cf := some (fileOf pool4 1 #[.nestMembers #[98]] #[{ accessFlags := 2, nameIndex := 7, descriptorIndex := 8, attributes := #[] }, { accessFlags := 9, nameIndex := 198, descriptorIndex := 335, attributes := #[] }, { accessFlags := 9, nameIndex := 201, descriptorIndex := 335, attributes := #[] }] 49 4 #[] #[{ accessFlags := 25, nameIndex := 354, descriptorIndex := 339, attributes := #[] }, { accessFlags := 25, nameIndex := 358, descriptorIndex := 339, attributes := #[] }, { accessFlags := 25, nameIndex := 361, descriptorIndex := 339, attributes := #[] }, { accessFlags := 26, nameIndex := 364, descriptorIndex := 339, attributes := #[] }, { accessFlags := 26, nameIndex := 365, descriptorIndex := 339, attributes := #[] }, { accessFlags := 26, nameIndex := 172, descriptorIndex := 173, attributes := #[] }, { accessFlags := 26, nameIndex := 176, descriptorIndex := 173, attributes := #[] }, { accessFlags := 8, nameIndex := 344, descriptorIndex := 339, attributes := #[] }, { accessFlags := 8, nameIndex := 338, descriptorIndex := 339, attributes := #[] }, { accessFlags := 4120, nameIndex := 245, descriptorIndex := 246, attributes := #[] }])
  fields := #[{ name := "E", type := .double, accessFlags := 25, slot := 0, constantValue := 0 }, { name := "PI", type := .double, accessFlags := 25, slot := 1, constantValue := 0 }, { name := "TAU", type := .double, accessFlags := 25, slot := 2, constantValue := 0 }, { name := "DEGREES_TO_RADIANS", type := .double, accessFlags := 26, slot := 3, constantValue := 0 }, { name := "RADIANS_TO_DEGREES", type := .double, accessFlags := 26, slot := 4, constantValue := 0 }, { name := "negativeZeroFloatBits", type := .long, accessFlags := 26, slot := 5, constantValue := 0 }, { name := "negativeZeroDoubleBits", type := .long, accessFlags := 26, slot := 6, constantValue := 0 }, { name := "twoToTheDoubleScaleUp", type := .double, accessFlags := 8, slot := 7, constantValue := 0 }, { name := "twoToTheDoubleScaleDown", type := .double, accessFlags := 8, slot := 8, constantValue := 0 }, { name := "$assertionsDisabled", type := .boolean, accessFlags := 4120, slot := 9, constantValue := 0 }]
  methods := #[k4m0, k4m1, k4m2]
  instanceTypes := #[]
  staticTypes := #[.double, .double, .double, .double, .double, .long, .long, .double, .double, .boolean]
  resolved := Array.replicate 460 none
  statics := none }

def pool5 : Array CpInfo := pool [(2, .class_ 4), (1, u "java/lang/Object"), (0, u "<init>"), (0, u "()V"), (1, .class_ 10), (1, u "java/lang/System"), (0, u "allowSecurityManager"), (0, u "I"), (16, u "cons"), (0, u "Ljava/io/Console;"), (77, .class_ 110), (1, u "java/lang/System$CallersHolder"), (43, u "initialErrStream"), (0, u "Ljava/io/PrintStream;"), (19, u "security"), (0, u "Ljava/lang/SecurityManager;"), (31, .class_ 209), (0, u "java/lang/System$1"), (7, u "props"), (0, u "Ljava/util/Properties;"), (2, u "lineSeparator"), (0, u "Ljava/lang/String;"), (96, .class_ 321), (1, u "java/lang/System$LoggerFinder"), (5, .class_ 328), (0, u "java/lang/System$Logger"), (67, u "err"), (2, u "out"), (91, u "notSupportedJnuEncoding"), (15, u "in"), (17, u "initialIn"), (0, u "Ljava/io/InputStream;"), (35, u "bootLayer"), (0, u "Ljava/lang/ModuleLayer;"), (99, .class_ 664), (0, u "java/lang/System$2"), (9, u "NEVER"), (2, u "MAYBE"), (49, u "arraycopy"), (0, u "(Ljava/lang/Object;ILjava/lang/Object;II)V"), (72, .class_ 802), (0, u "java/lang/System$Logger$Level")] 31

def k5m0 : Method := { name := "<init>", desc := "()V", sig := { parameters := [], returnType := none }, accessFlags := 2, code := none }
def k5m1 : Method := { name := "arraycopy", desc := "(Ljava/lang/Object;ILjava/lang/Object;II)V", sig := { parameters := [(.object "java/lang/Object"), .int, (.object "java/lang/Object"), .int, .int], returnType := none }, accessFlags := 265, code := none }
/-- java/lang/System -/
def k5 : Class := { plain "java/lang/System" (some 0) with
  accessFlags := 49
  interfaces := #[]
  cf := some (fileOf pool5 8 #[.nestMembers #[319, 327, 801, 108, 663, 208]] #[{ accessFlags := 2, nameIndex := 5, descriptorIndex := 6, attributes := #[] }, { accessFlags := 265, nameIndex := 727, descriptorIndex := 728, attributes := #[] }] 49 2 #[] #[{ accessFlags := 25, nameIndex := 507, descriptorIndex := 526, attributes := #[] }, { accessFlags := 25, nameIndex := 399, descriptorIndex := 155, attributes := #[] }, { accessFlags := 25, nameIndex := 396, descriptorIndex := 155, attributes := #[] }, { accessFlags := 10, nameIndex := 525, descriptorIndex := 526, attributes := #[] }, { accessFlags := 26, nameIndex := 674, descriptorIndex := 12, attributes := #[] }, { accessFlags := 26, nameIndex := 677, descriptorIndex := 12, attributes := #[] }, { accessFlags := 10, nameIndex := 11, descriptorIndex := 12, attributes := #[] }, { accessFlags := 74, nameIndex := 175, descriptorIndex := 176, attributes := #[] }, { accessFlags := 10, nameIndex := 491, descriptorIndex := 222, attributes := #[] }, { accessFlags := 74, nameIndex := 29, descriptorIndex := 30, attributes := #[] }, { accessFlags := 74, nameIndex := 154, descriptorIndex := 155, attributes := #[] }, { accessFlags := 10, nameIndex := 217, descriptorIndex := 218, attributes := #[] }, { accessFlags := 10, nameIndex := 221, descriptorIndex := 222, attributes := #[] }, { accessFlags := 8, nameIndex := 562, descriptorIndex := 563, attributes := #[] }])
  fields := #[{ name := "in", type := (.object "java/io/InputStream"), accessFlags := 25, slot := 0, constantValue := 0 }, { name := "out", type := (.object "java/io/PrintStream"), accessFlags := 25, slot := 1, constantValue := 0 }, { name := "err", type := (.object "java/io/PrintStream"), accessFlags := 25, slot := 2, constantValue := 0 }, { name := "initialIn", type := (.object "java/io/InputStream"), accessFlags := 10, slot := 3, constantValue := 0 }, { name := "NEVER", type := .int, accessFlags := 26, slot := 4, constantValue := 0 }, { name := "MAYBE", type := .int, accessFlags := 26, slot := 5, constantValue := 0 }, { name := "allowSecurityManager", type := .int, accessFlags := 10, slot := 6, constantValue := 0 }, { name := "security", type := (.object "java/lang/SecurityManager"), accessFlags := 74, slot := 7, constantValue := 0 }, { name := "notSupportedJnuEncoding", type := (.object "java/lang/String"), accessFlags := 10, slot := 8, constantValue := 0 }, { name := "cons", type := (.object "java/io/Console"), accessFlags := 74, slot := 9, constantValue := 0 }, { name := "initialErrStream", type := (.object "java/io/PrintStream"), accessFlags := 74, slot := 10, constantValue := 0 }, { name := "props", type := (.object "java/util/Properties"), accessFlags := 10, slot := 11, constantValue := 0 }, { name := "lineSeparator", type := (.object "java/lang/String"), accessFlags := 10, slot := 12, constantValue := 0 }, { name := "bootLayer", type := (.object "java/lang/ModuleLayer"), accessFlags := 8, slot := 13, constantValue := 0 }]
  methods := #[k5m0, k5m1]
  instanceTypes := #[]
  staticTypes := #[(.object "java/io/InputStream"), (.object "java/io/PrintStream"), (.object "java/io/PrintStream"), (.object "java/io/InputStream"), .int, .int, .int, (.object "java/lang/SecurityManager"), (.object "java/lang/String"), (.object "java/io/Console"), (.object "java/io/PrintStream"), (.object "java/util/Properties"), (.object "java/lang/String"), (.object "java/lang/ModuleLayer")]
  resolved := Array.replicate 834 none
  statics := none }

def pool6 : Array CpInfo := pool [(1, u "java/lang/Cloneable"), (0, .class_ 1), (0, u "java/lang/Object"), (0, .class_ 3)] 3

/-- java/lang/Cloneable -/
def k6 : Class := { plain "java/lang/Cloneable" (some 0) with
  accessFlags := 1537
  interfaces := #[]
  cf := some (fileOf pool6 2 #[] #[] 1537 4 #[] #[])
  fields := #[]
  methods := #[]
  instanceTypes := #[]
  staticTypes := #[]
  resolved := Array.replicate 8 none
  statics := none }

def pool7 : Array CpInfo := pool [(1, u "java/io/Serializable"), (0, .class_ 1), (0, u "java/lang/Object"), (0, .class_ 3)] 3

/-- java/io/Serializable -/
def k7 : Class := { plain "java/io/Serializable" (some 0) with
  accessFlags := 1537
  interfaces := #[]
  cf := some (fileOf pool7 2 #[] #[] 1537 4 #[] #[])
  fields := #[]
  methods := #[]
  instanceTypes := #[]
  staticTypes := #[]
  resolved := Array.replicate 8 none
  statics := none }

/-- the primitive byte -/
def k8 : Class := { plain "byte" none with kind := .primitive 'B', accessFlags := 0x411 }
/-- [B -/
def k9 : Class := { plain "[B" (some 0) with kind := .array 8 .byte, interfaces := #[6, 7], accessFlags := 1041 }

/-- the primitive int -/
def k10 : Class := { plain "int" none with kind := .primitive 'I', accessFlags := 0x411 }
/-- [I -/
def k11 : Class := { plain "[I" (some 0) with kind := .array 10 .int, interfaces := #[6, 7], accessFlags := 1041 }

def heap : Heap := #[]
def classes : Array Class := #[k0, k1, k2, k3, k4, k5, k6, k7, k8, k9, k10, k11]
def interned : List (Array UInt16 × Addr) := []
def slotsUsed : Nat := 0
def theMethod : MethodId := ⟨1, 1⟩
def args0 : Array Value := #[.int 5, .int 7]
def aboutOver (below : List Frame) : State where
  vm := { classes := classes, interned := interned.toArray }
  heap := heap
  slotsUsed := slotsUsed
  threads := #[{ frames := .invoking theMethod args0 :: below }]
def below0 : List Frame := [.native { method := ⟨0, 0⟩, args := #[] }]
def about1 : State := aboutOver below0
def p0 : Program := .bare "" "" ""
def e0 : Env := launch0.env 0 0 0
theorem w_frames : about1.frames = Frame.invoking theMethod args0 :: below0 := rfl
set_option maxRecDepth 65536 in
theorem w_args : argsFit about1.vm theMethod args0 = true := by decide +kernel
set_option maxRecDepth 65536 in
theorem w_heap : heapFits about1 = true := by decide +kernel
set_option maxRecDepth 65536 in
theorem w_runnable : about1.curStatus? = some .runnable := by decide +kernel
set_option maxRecDepth 65536 in
theorem w_alone : about1.alone = true := by decide +kernel
set_option maxRecDepth 65536 in
theorem w_named : about1.methodNamed? x = some theMethod := by decide +kernel
set_option maxRecDepth 65536 in
theorem w_hears : about1.hears theMethod below0 = true := by decide +kernel
set_option maxRecDepth 65536 in
theorem w_ripe : about1.ripe theMethod args0 below0 = true := by decide +kernel
theorem w_running : about1.status = .running := rfl
set_option maxRecDepth 65536 in
theorem w_room : about1.hasRoom e0.platform room_1 = true :=
  launch0.hasRoom_least _ room_1 (by decide +kernel) (by decide +kernel) (by decide +kernel) (by decide +kernel) (by decide +kernel) (by decide +kernel)
theorem allAtoms_all (ts : List Jvm.Cond) (a : Array Jvm.Value) (st : Jvm.State) : (allAtoms ts).before a st = ts.all (fun c => c.before a st) := by
  induction ts with
  | nil => rfl
  | cons c t ih =>
    show (Jvm.Cond.and c (allAtoms t)).before a st = _
    rw [Jvm.Cond.before_and, ih, List.all_cons]
def words1 : List Jvm.Cond := Jvm.Cond.code x code maxLocals ret :: tables_1
/-- a 'code' word, met by the world's own term for the bytes: nothing is compared byte by byte -/
theorem code_word {y : MethodName} {bytes : ByteArray} {mx : Nat} {rt : Option FieldType} {a : Array Value} {s : State} {m : MethodId} {meth : Method} {c : Code} (h1 : s.methodNamed? y = some m) (h2 : s.vm.method? m = some meth) (h3 : meth.code = some c) (h4 : c.code = bytes)
    (h5 : (c.maxLocals == mx && c.exceptionTable.isEmpty && decide (c.maxStack ≤ mostOperands) && decide (meth.sig.returnType = rt) && !meth.locks && decide (parseMethodDescriptor y.desc = some meth.sig)) = true) : (Jvm.Cond.code y bytes mx rt).before a s = true := by
  simp only [Bool.and_eq_true, beq_iff_eq, Bool.not_eq_true', decide_eq_true_eq] at h5
  obtain ⟨⟨⟨⟨⟨g1, g2⟩, g3⟩, g4⟩, g5⟩, g6⟩ := h5
  simp [Cond.before, Cond.holds, Cond.value, h1, h2, h3, h4, g1, g2, g3, g4, g5, g6]
def isCode : Jvm.Cond → Bool
  | .code _ _ _ _ => true
  | _ => false
theorem all_split {L : List Jvm.Cond} {P : Jvm.Cond → Bool} (h1 : L.all (fun c => isCode c || P c) = true) (h2 : ∀ c ∈ L.filter isCode, P c = true) : L.all P = true := by
  refine List.all_eq_true.mpr fun c hc => ?_
  have h := List.all_eq_true.mp h1 c hc
  rcases Bool.eq_false_or_eq_true (isCode c) with hi | hi
  · exact h2 c (List.mem_filter.mpr ⟨hc, hi⟩)
  · simpa [hi] using h
set_option maxRecDepth 65536 in
theorem w_c0 : (Jvm.Cond.code x code maxLocals ret).before args0 about1 = true := code_word (m := ⟨1, 1⟩) (meth := k1m1) (c := k1c1) (by decide +kernel) rfl rfl rfl (by decide +kernel)
set_option maxRecDepth 65536 in
theorem w_c1 : (Jvm.Cond.code ({ cls := "com/example/planar_drawing_kit/planardrawingkit/inspect/SweepLine", name := "<init>", desc := "(I)V" } : Jvm.MethodName) prog_99_method_1_code (2 : Nat) (Option.none : Option Jvm.ClassFile.FieldType)).before args0 about1 = true := code_word (m := ⟨2, 0⟩) (meth := k2m0) (c := k2c0) (by decide +kernel) rfl rfl rfl (by decide +kernel)
set_option maxRecDepth 65536 in
theorem w_c2 : (Jvm.Cond.code ({ cls := "java/lang/Object", name := "<init>", desc := "()V" } : Jvm.MethodName) object_method_1_code (1 : Nat) (Option.none : Option Jvm.ClassFile.FieldType)).before args0 about1 = true := code_word (m := ⟨0, 0⟩) (meth := k0m0) (c := k0c0) (by decide +kernel) rfl rfl rfl (by decide +kernel)
set_option maxRecDepth 65536 in
theorem w_c3 : (Jvm.Cond.code ({ cls := "java/util/Arrays", name := "fill", desc := "([II)V" } : Jvm.MethodName) jdk_65_method_103_code (4 : Nat) (Option.none : Option Jvm.ClassFile.FieldType)).before args0 about1 = true := code_word (m := ⟨3, 1⟩) (meth := k3m1) (c := k3c1) (by decide +kernel) rfl rfl rfl (by decide +kernel)
set_option maxRecDepth 65536 in
theorem w_c4 : (Jvm.Cond.code ({ cls := "com/example/planar_drawing_kit/planardrawingkit/inspect/SweepLine", name := "insertAbove", desc := "(II)V" } : Jvm.MethodName) prog_99_method_7_code (6 : Nat) (Option.none : Option Jvm.ClassFile.FieldType)).before args0 about1 = true := code_word (m := ⟨2, 5⟩) (meth := k2m5) (c := k2c5) (by decide +kernel) rfl rfl rfl (by decide +kernel)
set_option maxRecDepth 65536 in
theorem w_c5 : (Jvm.Cond.code ({ cls := "com/example/planar_drawing_kit/planardrawingkit/inspect/SweepLine", name := "newNode", desc := "(I)I" } : Jvm.MethodName) prog_99_method_11_code (3 : Nat) (Option.some Jvm.ClassFile.FieldType.int)).before args0 about1 = true := code_word (m := ⟨2, 8⟩) (meth := k2m8) (c := k2c8) (by decide +kernel) rfl rfl rfl (by decide +kernel)
set_option maxRecDepth 65536 in
theorem w_c6 : (Jvm.Cond.code ({ cls := "com/example/planar_drawing_kit/planardrawingkit/inspect/SweepLine", name := "grow", desc := "()V" } : Jvm.MethodName) prog_99_method_12_code (2 : Nat) (Option.none : Option Jvm.ClassFile.FieldType)).before args0 about1 = true := code_word (m := ⟨2, 9⟩) (meth := k2m9) (c := k2c9) (by decide +kernel) rfl rfl rfl (by decide +kernel)
set_option maxRecDepth 65536 in
theorem w_c7 : (Jvm.Cond.code ({ cls := "java/lang/Math", name := "max", desc := "(II)I" } : Jvm.MethodName) jdk_29_method_65_code (2 : Nat) (Option.some Jvm.ClassFile.FieldType.int)).before args0 about1 = true := code_word (m := ⟨4, 1⟩) (meth := k4m1) (c := k4c1) (by decide +kernel) rfl rfl rfl (by decide +kernel)
set_option maxRecDepth 65536 in
theorem w_c8 : (Jvm.Cond.code ({ cls := "java/util/Arrays", name := "copyOf", desc := "([II)[I" } : Jvm.MethodName) jdk_65_method_123_code (3 : Nat) (Option.some (Jvm.ClassFile.FieldType.array Jvm.ClassFile.FieldType.int))).before args0 about1 = true := code_word (m := ⟨3, 2⟩) (meth := k3m2) (c := k3c2) (by decide +kernel) rfl rfl rfl (by decide +kernel)
set_option maxRecDepth 65536 in
theorem w_c9 : (Jvm.Cond.code ({ cls := "java/lang/Math", name := "min", desc := "(II)I" } : Jvm.MethodName) jdk_29_method_69_code (2 : Nat) (Option.some Jvm.ClassFile.FieldType.int)).before args0 about1 = true := code_word (m := ⟨4, 2⟩) (meth := k4m2) (c := k4c2) (by decide +kernel) rfl rfl rfl (by decide +kernel)
set_option maxRecDepth 65536 in
theorem w_c10 : (Jvm.Cond.code ({ cls := "com/example/planar_drawing_kit/planardrawingkit/inspect/SweepLine", name := "rotateUp", desc := "(I)V" } : Jvm.MethodName) prog_99_method_13_code (4 : Nat) (Option.none : Option Jvm.ClassFile.FieldType)).before args0 about1 = true := code_word (m := ⟨2, 10⟩) (meth := k2m10) (c := k2c10) (by decide +kernel) rfl rfl rfl (by decide +kernel)
set_option maxRecDepth 65536 in
theorem w_c11 : (Jvm.Cond.code ({ cls := "com/example/planar_drawing_kit/planardrawingkit/inspect/SweepLine", name := "replaceChild", desc := "(III)V" } : Jvm.MethodName) prog_99_method_14_code (4 : Nat) (Option.none : Option Jvm.ClassFile.FieldType)).before args0 about1 = true := code_word (m := ⟨2, 11⟩) (meth := k2m11) (c := k2c11) (by decide +kernel) rfl rfl rfl (by decide +kernel)
set_option maxRecDepth 65536 in
theorem w_c12 : (Jvm.Cond.code ({ cls := "com/example/planar_drawing_kit/planardrawingkit/inspect/SweepLine", name := "swapWithAbove", desc := "(I)V" } : Jvm.MethodName) prog_99_method_9_code (5 : Nat) (Option.none : Option Jvm.ClassFile.FieldType)).before args0 about1 = true := code_word (m := ⟨2, 6⟩) (meth := k2m6) (c := k2c6) (by decide +kernel) rfl rfl rfl (by decide +kernel)
set_option maxRecDepth 65536 in
theorem w_c13 : (Jvm.Cond.code ({ cls := "com/example/planar_drawing_kit/planardrawingkit/inspect/SweepLine", name := "lowest", desc := "()I" } : Jvm.MethodName) prog_99_method_2_code (1 : Nat) (Option.some Jvm.ClassFile.FieldType.int)).before args0 about1 = true := code_word (m := ⟨2, 1⟩) (meth := k2m1) (c := k2c1) (by decide +kernel) rfl rfl rfl (by decide +kernel)
set_option maxRecDepth 65536 in
theorem w_c14 : (Jvm.Cond.code ({ cls := "com/example/planar_drawing_kit/planardrawingkit/inspect/SweepLine", name := "edgeOf", desc := "(I)I" } : Jvm.MethodName) prog_99_method_10_code (2 : Nat) (Option.some Jvm.ClassFile.FieldType.int)).before args0 about1 = true := code_word (m := ⟨2, 7⟩) (meth := k2m7) (c := k2c7) (by decide +kernel) rfl rfl rfl (by decide +kernel)
set_option maxRecDepth 65536 in
theorem w_c15 : (Jvm.Cond.code ({ cls := "com/example/planar_drawing_kit/planardrawingkit/inspect/SweepLine", name := "highest", desc := "()I" } : Jvm.MethodName) prog_99_method_3_code (1 : Nat) (Option.some Jvm.ClassFile.FieldType.int)).before args0 about1 = true := code_word (m := ⟨2, 2⟩) (meth := k2m2) (c := k2c2) (by decide +kernel) rfl rfl rfl (by decide +kernel)
set_option maxRecDepth 65536 in
theorem w_c16 : (Jvm.Cond.code ({ cls := "com/example/planar_drawing_kit/planardrawingkit/inspect/SweepLine", name := "above", desc := "(I)I" } : Jvm.MethodName) prog_99_method_5_code (2 : Nat) (Option.some Jvm.ClassFile.FieldType.int)).before args0 about1 = true := code_word (m := ⟨2, 4⟩) (meth := k2m4) (c := k2c4) (by decide +kernel) rfl rfl rfl (by decide +kernel)
set_option maxRecDepth 65536 in
theorem w_c17 : (Jvm.Cond.code ({ cls := "com/example/planar_drawing_kit/planardrawingkit/inspect/SweepLine", name := "below", desc := "(I)I" } : Jvm.MethodName) prog_99_method_4_code (2 : Nat) (Option.some Jvm.ClassFile.FieldType.int)).before args0 about1 = true := code_word (m := ⟨2, 3⟩) (meth := k2m3) (c := k2c3) (by decide +kernel) rfl rfl rfl (by decide +kernel)
def codes1 : List Jvm.Cond := [Jvm.Cond.code x code maxLocals ret, Jvm.Cond.code ({ cls := "com/example/planar_drawing_kit/planardrawingkit/inspect/SweepLine", name := "<init>", desc := "(I)V" } : Jvm.MethodName) prog_99_method_1_code (2 : Nat) (Option.none : Option Jvm.ClassFile.FieldType), Jvm.Cond.code ({ cls := "java/lang/Object", name := "<init>", desc := "()V" } : Jvm.MethodName) object_method_1_code (1 : Nat) (Option.none : Option Jvm.ClassFile.FieldType), Jvm.Cond.code ({ cls := "java/util/Arrays", name := "fill", desc := "([II)V" } : Jvm.MethodName) jdk_65_method_103_code (4 : Nat) (Option.none : Option Jvm.ClassFile.FieldType), Jvm.Cond.code ({ cls := "com/example/planar_drawing_kit/planardrawingkit/inspect/SweepLine", name := "insertAbove", desc := "(II)V" } : Jvm.MethodName) prog_99_method_7_code (6 : Nat) (Option.none : Option Jvm.ClassFile.FieldType), Jvm.Cond.code ({ cls := "com/example/planar_drawing_kit/planardrawingkit/inspect/SweepLine", name := "newNode", desc := "(I)I" } : Jvm.MethodName) prog_99_method_11_code (3 : Nat) (Option.some Jvm.ClassFile.FieldType.int), Jvm.Cond.code ({ cls := "com/example/planar_drawing_kit/planardrawingkit/inspect/SweepLine", name := "grow", desc := "()V" } : Jvm.MethodName) prog_99_method_12_code (2 : Nat) (Option.none : Option Jvm.ClassFile.FieldType), Jvm.Cond.code ({ cls := "java/lang/Math", name := "max", desc := "(II)I" } : Jvm.MethodName) jdk_29_method_65_code (2 : Nat) (Option.some Jvm.ClassFile.FieldType.int), Jvm.Cond.code ({ cls := "java/util/Arrays", name := "copyOf", desc := "([II)[I" } : Jvm.MethodName) jdk_65_method_123_code (3 : Nat) (Option.some (Jvm.ClassFile.FieldType.array Jvm.ClassFile.FieldType.int)), Jvm.Cond.code ({ cls := "java/lang/Math", name := "min", desc := "(II)I" } : Jvm.MethodName) jdk_29_method_69_code (2 : Nat) (Option.some Jvm.ClassFile.FieldType.int), Jvm.Cond.code ({ cls := "com/example/planar_drawing_kit/planardrawingkit/inspect/SweepLine", name := "rotateUp", desc := "(I)V" } : Jvm.MethodName) prog_99_method_13_code (4 : Nat) (Option.none : Option Jvm.ClassFile.FieldType), Jvm.Cond.code ({ cls := "com/example/planar_drawing_kit/planardrawingkit/inspect/SweepLine", name := "replaceChild", desc := "(III)V" } : Jvm.MethodName) prog_99_method_14_code (4 : Nat) (Option.none : Option Jvm.ClassFile.FieldType), Jvm.Cond.code ({ cls := "com/example/planar_drawing_kit/planardrawingkit/inspect/SweepLine", name := "swapWithAbove", desc := "(I)V" } : Jvm.MethodName) prog_99_method_9_code (5 : Nat) (Option.none : Option Jvm.ClassFile.FieldType), Jvm.Cond.code ({ cls := "com/example/planar_drawing_kit/planardrawingkit/inspect/SweepLine", name := "lowest", desc := "()I" } : Jvm.MethodName) prog_99_method_2_code (1 : Nat) (Option.some Jvm.ClassFile.FieldType.int), Jvm.Cond.code ({ cls := "com/example/planar_drawing_kit/planardrawingkit/inspect/SweepLine", name := "edgeOf", desc := "(I)I" } : Jvm.MethodName) prog_99_method_10_code (2 : Nat) (Option.some Jvm.ClassFile.FieldType.int), Jvm.Cond.code ({ cls := "com/example/planar_drawing_kit/planardrawingkit/inspect/SweepLine", name := "highest", desc := "()I" } : Jvm.MethodName) prog_99_method_3_code (1 : Nat) (Option.some Jvm.ClassFile.FieldType.int), Jvm.Cond.code ({ cls := "com/example/planar_drawing_kit/planardrawingkit/inspect/SweepLine", name := "above", desc := "(I)I" } : Jvm.MethodName) prog_99_method_5_code (2 : Nat) (Option.some Jvm.ClassFile.FieldType.int), Jvm.Cond.code ({ cls := "com/example/planar_drawing_kit/planardrawingkit/inspect/SweepLine", name := "below", desc := "(I)I" } : Jvm.MethodName) prog_99_method_4_code (2 : Nat) (Option.some Jvm.ClassFile.FieldType.int)]
set_option maxRecDepth 65536 in
theorem codes_eq : words1.filter isCode = codes1 := rfl
theorem w_codes : ∀ c ∈ words1.filter isCode, c.before args0 about1 = true := by
  rw [codes_eq]
  intro c hc
  simp only [codes1, List.mem_cons, List.not_mem_nil, or_false] at hc
  rcases hc with rfl | rfl | rfl | rfl | rfl | rfl | rfl | rfl | rfl | rfl | rfl | rfl | rfl | rfl | rfl | rfl | rfl | rfl
  · exact w_c0
  · exact w_c1
  · exact w_c2
  · exact w_c3
  · exact w_c4
  · exact w_c5
  · exact w_c6
  · exact w_c7
  · exact w_c8
  · exact w_c9
  · exact w_c10
  · exact w_c11
  · exact w_c12
  · exact w_c13
  · exact w_c14
  · exact w_c15
  · exact w_c16
  · exact w_c17
set_option maxRecDepth 65536 in
theorem w_t1 : (words1.take 24).all (fun c => isCode c || c.before args0 about1) = true := by decide +kernel
set_option maxRecDepth 65536 in
theorem w_t2 : ((words1.drop 24).take 24).all (fun c => isCode c || c.before args0 about1) = true := by decide +kernel
set_option maxRecDepth 65536 in
theorem w_t3 : (((words1.drop 24).drop 24).take 24).all (fun c => isCode c || c.before args0 about1) = true := by decide +kernel
set_option maxRecDepth 65536 in
theorem w_t4 : ((((words1.drop 24).drop 24).drop 24).take 24).all (fun c => isCode c || c.before args0 about1) = true := by decide +kernel
set_option maxRecDepth 65536 in
theorem w_t5 : ((((words1.drop 24).drop 24).drop 24).drop 24).all (fun c => isCode c || c.before args0 about1) = true := by decide +kernel
theorem w_tables : (allAtoms (Jvm.Cond.code x code maxLocals ret :: tables_1)).before args0 about1 = true := by
  rw [allAtoms_all]
  show words1.all (fun c => c.before args0 about1) = true
  refine all_split ?_ w_codes
  rw [← List.take_append_drop 24 words1, List.all_append, w_t1, ← List.take_append_drop 24 (words1.drop 24), List.all_append, w_t2, ← List.take_append_drop 24 ((words1.drop 24).drop 24), List.all_append, w_t3, ← List.take_append_drop 24 (((words1.drop 24).drop 24).drop 24), List.all_append, w_t4, w_t5]
  rfl
set_option maxRecDepth 65536 in
theorem w_case : (Jvm.Cond.and given_1 narrow_1).before args0 about1 = true := by decide +kernel
theorem w_applies : (headSpec (Jvm.Cond.code x code maxLocals ret :: tables_1) room_1).applies x e0.platform about1 = true :=
  (Spec.applies_iff w_frames).mpr ⟨w_running, w_runnable, w_alone, w_named, w_hears, w_ripe, w_room, w_tables⟩
theorem atStart : AtStart classFile x code maxLocals ret World_1 tables_1 room_1 Calls_1 rest_1 Pre_1 launch0 p0 e0 about1 theMethod args0 below0 :=
  ⟨lists_1, trivial, launch0.admits_env _ _ _, launch0.least_env, fairChoices_fair.cas, fairChoices_fair.clock, w_frames, w_args, w_heap, w_applies, trivial, trivial, w_case⟩
end start1
theorem witness_1 : WitnessClaimed_1 := ⟨start1.p0, start1.e0, start1.about1, start1.theMethod, start1.args0, start1.below0, start1.atStart⟩
end Jvm.Pilot.@@N@@
