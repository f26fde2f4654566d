import JvmDerived
import JvmDerived.Pilot.@@N@@Statement
import JvmDerived.Pilot.@@N@@Code
set_option linter.unusedVariables false
set_option linter.unusedSimpArgs false
@@BLOCK:HandJ.lean.txt@@
@@BLOCK:SymMore.lean.txt@@
@@BLOCK:TracedD.lean.txt@@
namespace Jvm.Wk
open Sem ClassFile Op Lib Jvm.Stand Jvm.Free Jvm.LawKit Jvm.RoadKit
/-! THE SYMBOLIC HEAP: a list of known cells (items): an address, whether this run may write it (then it is new and no booked literal), what it is (an object of a described class | an array), and its values. -/
abbrev Kd : Type := String × List (String × String × String)
abbrev Item : Type := Addr × Bool × (Kd ⊕ FieldType) × List Value
abbrev key (x : Item) : Addr × Bool := (x.1, x.2.1)
def Ob (Z : State) (h : Heap) (a : Addr) (K : Kd) (vs : List Value) : Prop :=
  Exa Z h a K.1 ∧ ∀ (i : Nat) (f : String × String × String) (v : Value), K.2[i]? = some f → vs[i]? = some v → Fld Z h a f.1 f.2.1 f.2.2 v
def Ay (Z : State) (h : Heap) (a : Addr) (w : Bool) (ty : FieldType) (vs : List Value) : Prop :=
  ∃ c : Cell, Arr Z h a c ty ∧ c.slots = vs.toArray ∧ vs.length < 2 ^ 31 ∧ (∀ v ∈ vs, fits ty v = true) ∧ (w = true → ∀ C, ty = .object C → Ovr Z c.cls C)
def It (Z : State) (h : Heap) (x : Item) : Prop := match x.2.2.1 with
  | .inl K => Ob Z h x.1 K x.2.2.2 ∧ (x.2.1 = true → Unt h x.1)
  | .inr ty => Ay Z h x.1 x.2.1 ty x.2.2.2
def ApK (p q : Addr × Bool) : Prop := (p.2 || q.2) = true → p.1 ≠ q.1
def Hp (Z : State) (EL : List (String × Nat)) (vm : Vm) (h : Heap) (L : List Item) : Prop :=
  Ext Z.heap h ∧ CHv Z EL vm h ∧ (∀ x ∈ L, It Z h x) ∧ (L.map key).Pairwise ApK ∧ ∀ k ∈ L.map key, k.2 = true → Z.heap.size ≤ k.1 ∧ Safe Z EL vm h k.1
section Heaps
variable {Z : State} {EL : List (String × Nat)} {vm : Vm} {h h' : Heap} {L L' : List Item} {x : Item} {a : Addr} {sl : Nat} {v : Value}
theorem ApK.symm {p q : Addr × Bool} (k : ApK p q) : ApK q p := fun e => Ne.symm (k (by rw [Bool.or_comm]; exact e))
theorem It.lt (I : It Z h x) : x.1 < h.size := by
  obtain ⟨b, w, D, vs⟩ := x
  cases D with
  | inl K => exact (I.1.1 : Exa Z h b K.1).lt
  | inr ty => obtain ⟨c, A, -⟩ := I; exact A.lt
/-- untouched: as it was made, its fields aside -/
theorem unt_wr {b : Addr} (W : Wr h h' a sl v) (U : Unt h b) : Unt h' b := by
  obtain ⟨c0, w1, w2, w3, rfl⟩ := W
  obtain ⟨cell, u1, u2, u3⟩ := U
  by_cases q : a = b
  · subst q
    cases w1.symm.trans u1
    exact ⟨c0.setSlot sl v, by simp [(Array.getElem?_eq_some_iff.mp w1).1], u2, u3⟩
  · exact ⟨cell, by rw [Array.getElem?_setIfInBounds_ne q]; exact u1, u2, u3⟩
theorem It.ext (E : Ext h h') (I : It Z h x) : It Z h' x := by
  obtain ⟨b, w, D, vs⟩ := x
  cases D with
  | inl K =>
    refine ⟨⟨(I.1.1 : Exa Z h b K.1).ext E, fun i f v p q => (I.1.2 i f v p q).ext E⟩, fun hw => ?_⟩
    obtain ⟨cell, u1, u2⟩ := I.2 hw
    exact ⟨cell, E.2 _ _ u1, u2⟩
  | inr ty => obtain ⟨c, A, r⟩ := I; exact ⟨c, A.ext E, r⟩
theorem It.other (W : Wr h h' a sl v) (q : x.1 ≠ a) (I : It Z h x) : It Z h' x := by
  obtain ⟨b, w, D, vs⟩ := x
  cases D with
  | inl K =>
    refine ⟨⟨(I.1.1 : Exa Z h b K.1).wr W, fun i f v p r => (I.1.2 i f v p r).other W (Or.inl q)⟩, fun hw => unt_wr W (I.2 hw)⟩
  | inr ty => obtain ⟨c, A, r⟩ := I; exact ⟨c, A.other W q, r⟩
theorem extT {h1 h2 h3 : Heap} (A : Ext h1 h2) (B : Ext h2 h3) : Ext h1 h3 := ⟨Nat.le_trans A.1 B.1, fun x c q => B.2 x c (A.2 x c q)⟩
theorem Hp.push {D : Kd ⊕ FieldType} {vs : List Value} (H : Hp Z EL vm h L) (E : Ext h h') (I : It Z h' (h.size, true, D, vs)) : Hp Z EL vm h' ((h.size, true, D, vs) :: L) := by
  obtain ⟨H1, H2, H3, H4, H5⟩ := H
  refine ⟨extT H1 E, H2.ext E, ?_, ?_, ?_⟩
  · intro y hy
    rcases List.mem_cons.mp hy with rfl | hy
    · exact I
    · exact (H3 y hy).ext E
  · rw [List.map_cons]
    refine List.pairwise_cons.mpr ⟨fun k hk _ => ?_, H4⟩
    obtain ⟨y, hy, rfl⟩ := List.mem_map.mp hk
    exact Nat.ne_of_gt (H3 y hy).lt
  · intro k hk hw
    rcases List.mem_cons.mp hk with rfl | hk
    · exact ⟨H1.1, Safe.ext E H2 (Safe.new (Nat.le_refl _))⟩
    · exact ⟨(H5 k hk hw).1, Safe.ext E H2 (H5 k hk hw).2⟩
theorem Hp.add {D : Kd ⊕ FieldType} {vs : List Value} (H : Hp Z EL vm h L) (hn : ∀ k ∈ L.map key, k.2 = true → a ≠ k.1) (I : It Z h (a, false, D, vs)) : Hp Z EL vm h ((a, false, D, vs) :: L) := by
  obtain ⟨H1, H2, H3, H4, H5⟩ := H
  refine ⟨H1, H2, ?_, ?_, ?_⟩
  · intro y hy
    rcases List.mem_cons.mp hy with rfl | hy
    · exact I
    · exact H3 y hy
  · rw [List.map_cons]
    exact List.pairwise_cons.mpr ⟨fun k hk e => hn k hk (by simpa using e), H4⟩
  · intro k hk hw
    rcases List.mem_cons.mp hk with rfl | hk
    · cases hw
    · exact H5 k hk hw
theorem set_same {α : Type} {M : List α} {i : Nat} {k : α} (q : M[i]? = some k) : M.set i k = M := by
  obtain ⟨hi, rfl⟩ := List.getElem?_eq_some_iff.mp q
  exact List.set_getElem_self hi
theorem Hp.put {i : Nat} {D : Kd ⊕ FieldType} {vs vs' : List Value} (H : Hp Z EL vm h L) (hi : L[i]? = some (a, true, D, vs)) (W : Wr h h' a sl v) (I : It Z h' (a, true, D, vs')) : Hp Z EL vm h' (L.set i (a, true, D, vs')) := by
  obtain ⟨H1, H2, H3, H4, H5⟩ := H
  have hk : (L.map key)[i]? = some (a, true) := by rw [List.getElem?_map, hi]; rfl
  have em : (L.set i (a, true, D, vs')).map key = L.map key := by rw [List.map_set]; exact set_same hk
  have ha := H5 _ (List.mem_of_getElem? hk) rfl
  refine ⟨(Old.wr ⟨rfl, H1⟩ W ha.1).2, H2.wr W ha.2, ?_, by rw [em]; exact H4, ?_⟩
  · intro y hy
    obtain ⟨j, hj⟩ := List.mem_iff_getElem?.mp hy
    rw [List.getElem?_set] at hj
    split at hj
    · split at hj
      · cases hj; exact I
      · cases hj
    · rename_i hne
      refine (H3 y (List.mem_of_getElem? hj)).other W ?_
      have hkj : (L.map key)[j]? = some (key y) := by rw [List.getElem?_map, hj]; rfl
      obtain ⟨hi1, hi2⟩ := List.getElem?_eq_some_iff.mp hk
      obtain ⟨hj1, hj2⟩ := List.getElem?_eq_some_iff.mp hkj
      have P := List.pairwise_iff_getElem.mp H4
      rcases Nat.lt_or_gt_of_ne hne with q | q
      · have := P i j hi1 hj1 q
        rw [hi2, hj2] at this
        exact Ne.symm (this rfl)
      · have := P j i hj1 hi1 q
        rw [hi2, hj2] at this
        exact this (by simp)
  · rw [em]
    exact fun k hk hw => ⟨(H5 k hk hw).1, Safe.wr W ha.2 H2 (H5 k hk hw).2⟩
theorem Hp.perm (q : L.Perm L') (H : Hp Z EL vm h L) : Hp Z EL vm h L' := by
  obtain ⟨H1, H2, H3, H4, H5⟩ := H
  have qm := q.map key
  exact ⟨H1, H2, fun x hx => H3 x (q.mem_iff.mpr hx), (qm.pairwise_iff (fun {_ _} k => ApK.symm k)).mp H4, fun k hk => H5 k (qm.mem_iff.mpr hk)⟩
theorem Hp.sub (q : L'.Sublist L) (H : Hp Z EL vm h L) : Hp Z EL vm h L' := by
  obtain ⟨H1, H2, H3, H4, H5⟩ := H
  have qm := q.map key
  exact ⟨H1, H2, fun x hx => H3 x (q.subset hx), H4.sublist qm, fun k hk => H5 k (qm.subset hk)⟩
theorem Hp.later {vm1 : Vm} (H : Hp Z EL vm h L) (E : Ext h h') (Q : CHr Z EL vm h vm1 h') : Hp Z EL vm1 h' L := by
  obtain ⟨H1, H2, H3, H4, H5⟩ := H
  refine ⟨extT H1 E, Q.1, fun x hx => (H3 x hx).ext E, H4, fun k hk hw => ⟨(H5 k hk hw).1, ?_⟩⟩
  obtain ⟨y, hy, rfl⟩ := List.mem_map.mp hk
  exact Q.safe (H3 y hy).lt (H5 _ hk hw).2
theorem Hp.obj {i : Nat} {w : Bool} {K : Kd} {vs : List Value} (H : Hp Z EL vm h L) (hi : L[i]? = some (a, w, .inl K, vs)) : Ob Z h a K vs :=
  have q : Ob Z h a K vs ∧ (w = true → Unt h a) := H.2.2.1 _ (List.mem_of_getElem? hi)
  q.1
theorem Hp.unt {i : Nat} {K : Kd} {vs : List Value} (H : Hp Z EL vm h L) (hi : L[i]? = some (a, true, .inl K, vs)) : Unt h a :=
  have q : Ob Z h a K vs ∧ (true = true → Unt h a) := H.2.2.1 _ (List.mem_of_getElem? hi)
  q.2 rfl
theorem Hp.arr {i : Nat} {w : Bool} {ty : FieldType} {vs : List Value} (H : Hp Z EL vm h L) (hi : L[i]? = some (a, w, .inr ty, vs)) : Ay Z h a w ty vs := H.2.2.1 _ (List.mem_of_getElem? hi)
theorem Hp.new {i : Nat} {D : Kd ⊕ FieldType} {vs : List Value} (H : Hp Z EL vm h L) (hi : L[i]? = some (a, true, D, vs)) : Z.heap.size ≤ a ∧ Safe Z EL vm h a :=
  H.2.2.2.2 (a, true) (List.mem_map.mpr ⟨_, List.mem_of_getElem? hi, rfl⟩) rfl
theorem app_at {F : List Item} {i : Nat} (hi : L[i]? = some x) : (L ++ F)[i]? = some x := by
  rw [List.getElem?_append_left (List.getElem?_eq_some_iff.mp hi).1]; exact hi
theorem app_set {F : List Item} {i : Nat} {y : Item} (hi : L[i]? = some x) : (L ++ F).set i y = L.set i y ++ F :=
  List.set_append_left _ _ (List.getElem?_eq_some_iff.mp hi).1
/-- what the sheet says of a class: each field laid, each descriptor read -/
def LaidAll (Z : State) (a0 : Array Value) (C : String) : List (String × String × String) → Prop
  | [] => True
  | f :: r => (Laid Z a0 C f.1 f.2.1 f.2.2 ∧ (parseFieldDescriptor f.2.2).isSome = true) ∧ LaidAll Z a0 C r
theorem LaidAll.mem {a0 : Array Value} {C : String} : ∀ {l : List (String × String × String)}, LaidAll Z a0 C l → ∀ f ∈ l, Laid Z a0 C f.1 f.2.1 f.2.2 ∧ (parseFieldDescriptor f.2.2).isSome = true
  | [], _, _, q => nomatch q
  | g :: r, k, f, q => by
    rcases List.mem_cons.mp q with rfl | q
    · exact k.1
    · exact LaidAll.mem k.2 f q
def KOk (Z : State) (a0 : Array Value) (K : Kd) : Prop := LaidAll Z a0 K.1 K.2 ∧ (K.2.map (·.2.1)).Nodup
theorem KOk.ne {a0 : Array Value} {K : Kd} (k : KOk Z a0 K) {i j : Nat} {f g : String × String × String} (hi : K.2[i]? = some f) (hj : K.2[j]? = some g) (hne : i ≠ j) : Jvm.RoadKit.slotOf Z f.1 f.2.1 f.2.2 ≠ Jvm.RoadKit.slotOf Z g.1 g.2.1 g.2.2 := by
  obtain ⟨l1, p1⟩ := k.1.mem f (List.mem_of_getElem? hi)
  obtain ⟨l2, p2⟩ := k.1.mem g (List.mem_of_getElem? hj)
  obtain ⟨t1, q1⟩ := Option.isSome_iff_exists.mp p1
  obtain ⟨t2, q2⟩ := Option.isSome_iff_exists.mp p2
  refine slot_ne l1 l2 (fun e => hne ?_) q1 q2
  obtain ⟨hi1, rfl⟩ := List.getElem?_eq_some_iff.mp hi
  obtain ⟨hj1, rfl⟩ := List.getElem?_eq_some_iff.mp hj
  have N := k.2
  refine (List.getElem_inj (xs := K.2.map (·.2.1)) (i := i) (j := j) (h₀ := by simpa using hi1) (h₁ := by simpa using hj1) N).mp ?_
  simpa using e
theorem Ob.set {a0 : Array Value} {K : Kd} (k : KOk Z a0 K) {vs : List Value} {j : Nat} {f : String × String × String} (hj : K.2[j]? = some f) (W : Wr h h' a (Jvm.RoadKit.slotOf Z f.1 f.2.1 f.2.2) v) (I : Ob Z h a K vs) (hv : j < vs.length) : Ob Z h' a K (vs.set j v) := by
  refine ⟨I.1.wr W, fun i g u hg hu => ?_⟩
  rw [List.getElem?_set] at hu
  split at hu
  · rename_i e; subst e
    cases hu
    cases hj.symm.trans hg
    exact (I.2 j f _ hg (List.getElem?_eq_getElem hv)).same W
  · rename_i hne
    exact (I.2 i g u hg hu).other W (Or.inr (k.ne hg hj (Ne.symm hne)))
theorem Ay.set {w : Bool} {ty : FieldType} {vs : List Value} {j : Nat} (I : Ay Z h a w ty vs) (W : Wr h h' a j v) (hv : fits ty v = true) : Ay Z h' a w ty (vs.set j v) := by
  obtain ⟨c, A, e, hl, hf, ho⟩ := I
  refine ⟨c.setSlot j v, A.same W, ?_, by simpa using hl, ?_, ?_⟩
  · show c.slots.setIfInBounds j v = _
    rw [e]; simp
  · intro u hu
    rcases List.mem_or_eq_of_mem_set hu with q | rfl
    · exact hf u q
    · exact hv
  · exact fun q C r => ho q C r
end Heaps
end Jvm.Wk
namespace Jvm.Wk
open Sem ClassFile Op Lib Jvm.Stand Jvm.Free Jvm.LawKit Jvm.RoadKit
/-! A BODY AS A LIST OF ITS INSTRUCTIONS, and the plain ones run by evaluation. -/
abbrev Prog : Type := List (Nat × Instr × Nat)
def okB (code : ByteArray) : Prog → Bool
  | [] => true
  | (pc, i, n) :: r => decide (decode code pc = .ok (i, n)) && okB code r
theorem okB_at {code : ByteArray} : ∀ {B : Prog}, okB code B = true → ∀ {j pc : Nat} {i : Instr} {n : Nat}, B[j]? = some (pc, i, n) → decode code pc = .ok (i, n)
  | [], _, j, _, _, _, q => by simp at q
  | (pc0, i0, n0) :: r, h, 0, pc, i, n, q => by
    simp only [okB, Bool.and_eq_true, decide_eq_true_eq] at h
    simp only [List.getElem?_cons_zero, Option.some.injEq, Prod.mk.injEq] at q
    obtain ⟨rfl, rfl, rfl⟩ := q
    exact h.1
  | (pc0, i0, n0) :: r, h, j + 1, pc, i, n, q => by
    simp only [okB, Bool.and_eq_true] at h
    rw [List.getElem?_cons_succ] at q
    exact okB_at h.2 q
abbrev Cf : Type := Nat × List Slot × List Value
/-- Java's shifts -/
def ush (x y : Int32) : Int32 := (x.toUInt32 >>> (y &&& 31).toUInt32).toInt32
def shlL (x : Int64) (y : Int32) : Int64 := x <<< (y &&& 0x3f).toInt64
def shrL (x : Int64) (y : Int32) : Int64 := x >>> (y &&& 0x3f).toInt64
def ushL (x : Int64) (y : Int32) : Int64 := (x.toUInt64 >>> (y &&& 0x3f).toInt64.toUInt64).toInt64
def b2 (f : Int32 → Int32 → Int32) (n pc : Nat) (ls : List Slot) (st : List Value) : Option Cf := match n, st with
  | 1, .int y :: .int x :: r => some (pc + 1, ls, .int (f x y) :: r)
  | _, _ => none
def b2l (f : Int64 → Int64 → Int64) (n pc : Nat) (ls : List Slot) (st : List Value) : Option Cf := match n, st with
  | 1, .long y :: .long x :: r => some (pc + 1, ls, .long (f x y) :: r)
  | _, _ => none
def bsl (f : Int64 → Int32 → Int64) (n pc : Nat) (ls : List Slot) (st : List Value) : Option Cf := match n, st with
  | 1, .int y :: .long x :: r => some (pc + 1, ls, .long (f x y) :: r)
  | _, _ => none
def ucm (n pc : Nat) (ls : List Slot) (st : List Value) : Option Cf := match n, st with
  | 1, .long y :: .long x :: r => some (pc + 1, ls, .int (XT.cmpL x y) :: r)
  | _, _ => none
def u1 (f : Int32 → Value) (n pc : Nat) (ls : List Slot) (st : List Value) : Option Cf := match n, st with
  | 1, .int x :: r => some (pc + 1, ls, f x :: r)
  | _, _ => none
def u1l (f : Int64 → Value) (n pc : Nat) (ls : List Slot) (st : List Value) : Option Cf := match n, st with
  | 1, .long x :: r => some (pc + 1, ls, f x :: r)
  | _, _ => none
def gi (k ln n pc : Nat) (ls : List Slot) (st : List Value) : Option Cf := if n = ln then (match ls[k]? with
  | some (.val (.int v)) => some (pc + ln, ls, .int v :: st)
  | _ => none) else none
def gl (k ln n pc : Nat) (ls : List Slot) (st : List Value) : Option Cf := if n = ln then (match ls[k]? with
  | some (.val (.long v)) => some (pc + ln, ls, .long v :: st)
  | _ => none) else none
def ga (k ln n pc : Nat) (ls : List Slot) (st : List Value) : Option Cf := if n = ln then (match ls[k]? with
  | some (.val (.ref v)) => some (pc + ln, ls, .ref v :: st)
  | some (.val .null) => some (pc + ln, ls, .null :: st)
  | _ => none) else none
def sv (k ln n pc : Nat) (ls : List Slot) (v : Value) (r : List Value) : Option Cf := if n = ln then (match storeLocals ls.toArray k v with
  | some l' => some (pc + ln, l'.toList, r)
  | none => none) else none
def si (k ln n pc : Nat) (ls : List Slot) (st : List Value) : Option Cf := match st with
  | .int x :: r => sv k ln n pc ls (.int x) r
  | _ => none
def sl (k ln n pc : Nat) (ls : List Slot) (st : List Value) : Option Cf := match st with
  | .long x :: r => sv k ln n pc ls (.long x) r
  | _ => none
def sa (k ln n pc : Nat) (ls : List Slot) (st : List Value) : Option Cf := match st with
  | .ref x :: r => sv k ln n pc ls (.ref x) r
  | .null :: r => sv k ln n pc ls .null r
  | _ => none
def cn (v : Value) (ln n pc : Nat) (ls : List Slot) (st : List Value) : Option Cf := if n = ln then some (pc + ln, ls, v :: st) else none
def dpp (n pc : Nat) (ls : List Slot) (st : List Value) : Option Cf := match n, st with
  | 1, .int x :: r => some (pc + 1, ls, .int x :: .int x :: r)
  | 1, .ref x :: r => some (pc + 1, ls, .ref x :: .ref x :: r)
  | 1, .null :: r => some (pc + 1, ls, .null :: .null :: r)
  | _, _ => none
def dpx (n pc : Nat) (ls : List Slot) (st : List Value) : Option Cf := match n, st with
  | 1, .int x :: .ref y :: r => some (pc + 1, ls, .int x :: .ref y :: .int x :: r)
  | 1, .int x :: .int y :: r => some (pc + 1, ls, .int x :: .int y :: .int x :: r)
  | 1, .ref x :: .ref y :: r => some (pc + 1, ls, .ref x :: .ref y :: .ref x :: r)
  | _, _ => none
def dp2 (n pc : Nat) (ls : List Slot) (st : List Value) : Option Cf := match n, st with
  | 1, .long x :: r => some (pc + 1, ls, .long x :: .long x :: r)
  | 1, .int x :: .ref y :: r => some (pc + 1, ls, .int x :: .ref y :: .int x :: .ref y :: r)
  | 1, .int x :: .int y :: r => some (pc + 1, ls, .int x :: .int y :: .int x :: .int y :: r)
  | _, _ => none
def pp (n pc : Nat) (ls : List Slot) (st : List Value) : Option Cf := match n, st with
  | 1, .int _ :: r => some (pc + 1, ls, r)
  | 1, .ref _ :: r => some (pc + 1, ls, r)
  | 1, .null :: r => some (pc + 1, ls, r)
  | _, _ => none
def gt (o : Int) (n pc : Nat) (ls : List Slot) (st : List Value) : Option Cf := if n = 3 then (if 0 ≤ (pc : Int) + o then some (((pc : Int) + o).toNat, ls, st) else none) else none
def inc (k : Nat) (d : Int) (n pc : Nat) (ls : List Slot) (st : List Value) : Option Cf := match ls[k]? with
  | some (.val (.int x)) => sv k 3 n pc ls (.int (x + Int32.ofInt d)) st
  | _ => none
def st1 (i : Instr) (n pc : Nat) (ls : List Slot) (st : List Value) : Option Cf := match i with
  | .iload_n k => gi k.val 1 n pc ls st
  | .iload k => gi k 2 n pc ls st
  | .lload_n k => gl k.val 1 n pc ls st
  | .lload k => gl k 2 n pc ls st
  | .aload_n k => ga k.val 1 n pc ls st
  | .aload k => ga k 2 n pc ls st
  | .istore_n k => si k.val 1 n pc ls st
  | .istore k => si k 2 n pc ls st
  | .lstore_n k => sl k.val 1 n pc ls st
  | .lstore k => sl k 2 n pc ls st
  | .astore_n k => sa k.val 1 n pc ls st
  | .astore k => sa k 2 n pc ls st
  | .iconst z => cn (.int (Int32.ofInt z)) 1 n pc ls st
  | .bipush z => cn (.int (Int8.ofInt z).toInt32) 2 n pc ls st
  | .sipush z => cn (.int (Int16.ofInt z).toInt32) 3 n pc ls st
  | .lconst k => cn (.long (Int64.ofNat k)) 1 n pc ls st
  | .aconst_null => cn .null 1 n pc ls st
  | .iadd => b2 (· + ·) n pc ls st
  | .isub => b2 (· - ·) n pc ls st
  | .imul => b2 (· * ·) n pc ls st
  | .iand => b2 (· &&& ·) n pc ls st
  | .ior => b2 (· ||| ·) n pc ls st
  | .ixor => b2 (· ^^^ ·) n pc ls st
  | .ishl => b2 (fun x y => x <<< (y &&& 31)) n pc ls st
  | .ishr => b2 (fun x y => x >>> (y &&& 31)) n pc ls st
  | .iushr => b2 ush n pc ls st
  | .ladd => b2l (· + ·) n pc ls st
  | .lsub => b2l (· - ·) n pc ls st
  | .lmul => b2l (· * ·) n pc ls st
  | .land => b2l (· &&& ·) n pc ls st
  | .lor => b2l (· ||| ·) n pc ls st
  | .lxor => b2l (· ^^^ ·) n pc ls st
  | .lshl => bsl shlL n pc ls st
  | .lshr => bsl shrL n pc ls st
  | .lushr => bsl ushL n pc ls st
  | .lcmp => ucm n pc ls st
  | .ineg => u1 (fun x => .int (-x)) n pc ls st
  | .i2b => u1 (fun x => .int x.toInt8.toInt32) n pc ls st
  | .i2c => u1 (fun x => .int x.toUInt32.toUInt16.toUInt32.toInt32) n pc ls st
  | .i2s => u1 (fun x => .int x.toInt16.toInt32) n pc ls st
  | .i2l => u1 (fun x => .long x.toInt64) n pc ls st
  | .l2i => u1l (fun x => .int x.toInt32) n pc ls st
  | .lneg => u1l (fun x => .long (-x)) n pc ls st
  | .dup => dpp n pc ls st
  | .dup_x1 => dpx n pc ls st
  | .dup2 => dp2 n pc ls st
  | .pop => pp n pc ls st
  | .goto o => gt o n pc ls st
  | .iinc k d => inc k d n pc ls st
  | _ => none
section Inv
variable {n pc k ln : Nat} {ls : List Slot} {st : List Value} {z : Cf} {v : Value} {r : List Value}
theorem b2_inv {f : Int32 → Int32 → Int32} (h : b2 f n pc ls st = some z) : ∃ y x r, n = 1 ∧ st = .int y :: .int x :: r ∧ z = (pc + 1, ls, .int (f x y) :: r) := by
  unfold b2 at h; split at h
  · cases h; exact ⟨_, _, _, rfl, rfl, rfl⟩
  · cases h
theorem b2l_inv {f : Int64 → Int64 → Int64} (h : b2l f n pc ls st = some z) : ∃ y x r, n = 1 ∧ st = .long y :: .long x :: r ∧ z = (pc + 1, ls, .long (f x y) :: r) := by
  unfold b2l at h; split at h
  · cases h; exact ⟨_, _, _, rfl, rfl, rfl⟩
  · cases h
theorem bsl_inv {f : Int64 → Int32 → Int64} (h : bsl f n pc ls st = some z) : ∃ y x r, n = 1 ∧ st = .int y :: .long x :: r ∧ z = (pc + 1, ls, .long (f x y) :: r) := by
  unfold bsl at h; split at h
  · cases h; exact ⟨_, _, _, rfl, rfl, rfl⟩
  · cases h
theorem ucm_inv (h : ucm n pc ls st = some z) : ∃ y x r, n = 1 ∧ st = .long y :: .long x :: r ∧ z = (pc + 1, ls, .int (XT.cmpL x y) :: r) := by
  unfold ucm at h; split at h
  · cases h; exact ⟨_, _, _, rfl, rfl, rfl⟩
  · cases h
theorem u1_inv {f : Int32 → Value} (h : u1 f n pc ls st = some z) : ∃ x r, n = 1 ∧ st = .int x :: r ∧ z = (pc + 1, ls, f x :: r) := by
  unfold u1 at h; split at h
  · cases h; exact ⟨_, _, rfl, rfl, rfl⟩
  · cases h
theorem u1l_inv {f : Int64 → Value} (h : u1l f n pc ls st = some z) : ∃ x r, n = 1 ∧ st = .long x :: r ∧ z = (pc + 1, ls, f x :: r) := by
  unfold u1l at h; split at h
  · cases h; exact ⟨_, _, rfl, rfl, rfl⟩
  · cases h
theorem gi_inv (h : gi k ln n pc ls st = some z) : ∃ v, n = ln ∧ ls[k]? = some (.val (.int v)) ∧ z = (pc + ln, ls, .int v :: st) := by
  unfold gi at h; split at h
  · split at h
    · cases h; exact ⟨_, by assumption, by assumption, rfl⟩
    · cases h
  · cases h
theorem gl_inv (h : gl k ln n pc ls st = some z) : ∃ v, n = ln ∧ ls[k]? = some (.val (.long v)) ∧ z = (pc + ln, ls, .long v :: st) := by
  unfold gl at h; split at h
  · split at h
    · cases h; exact ⟨_, by assumption, by assumption, rfl⟩
    · cases h
  · cases h
theorem ga_inv (h : ga k ln n pc ls st = some z) : ∃ v : Value, v.isRef = true ∧ n = ln ∧ ls[k]? = some (.val v) ∧ z = (pc + ln, ls, v :: st) := by
  unfold ga at h; split at h
  · split at h
    · cases h; exact ⟨_, rfl, by assumption, by assumption, rfl⟩
    · cases h; exact ⟨_, rfl, by assumption, by assumption, rfl⟩
    · cases h
  · cases h
theorem sv_inv (h : sv k ln n pc ls v r = some z) : ∃ l', n = ln ∧ storeLocals ls.toArray k v = some l' ∧ z = (pc + ln, l'.toList, r) := by
  unfold sv at h; split at h
  · split at h
    · cases h; exact ⟨_, by assumption, by assumption, rfl⟩
    · cases h
  · cases h
theorem si_inv (h : si k ln n pc ls st = some z) : ∃ x r l', n = ln ∧ st = .int x :: r ∧ storeLocals ls.toArray k (.int x) = some l' ∧ z = (pc + ln, l'.toList, r) := by
  unfold si at h; split at h
  · obtain ⟨l', a, b, c⟩ := sv_inv h; exact ⟨_, _, l', a, rfl, b, c⟩
  · cases h
theorem sl_inv (h : sl k ln n pc ls st = some z) : ∃ x r l', n = ln ∧ st = .long x :: r ∧ storeLocals ls.toArray k (.long x) = some l' ∧ z = (pc + ln, l'.toList, r) := by
  unfold sl at h; split at h
  · obtain ⟨l', a, b, c⟩ := sv_inv h; exact ⟨_, _, l', a, rfl, b, c⟩
  · cases h
theorem sa_inv (h : sa k ln n pc ls st = some z) : ∃ x r l', Value.isRef x = true ∧ n = ln ∧ st = x :: r ∧ storeLocals ls.toArray k x = some l' ∧ z = (pc + ln, l'.toList, r) := by
  unfold sa at h; split at h
  · obtain ⟨l', a, b, c⟩ := sv_inv h; exact ⟨_, _, l', rfl, a, rfl, b, c⟩
  · obtain ⟨l', a, b, c⟩ := sv_inv h; exact ⟨_, _, l', rfl, a, rfl, b, c⟩
  · cases h
theorem cn_inv (h : cn v ln n pc ls st = some z) : n = ln ∧ z = (pc + ln, ls, v :: st) := by
  unfold cn at h; split at h
  · cases h; exact ⟨by assumption, rfl⟩
  · cases h
theorem dpp_inv (h : dpp n pc ls st = some z) : ∃ x r, Value.category x = 1 ∧ n = 1 ∧ st = x :: r ∧ z = (pc + 1, ls, x :: x :: r) := by
  unfold dpp at h; split at h
  all_goals first | (cases h; exact ⟨_, _, rfl, rfl, rfl, rfl⟩) | cases h
theorem dpx_inv (h : dpx n pc ls st = some z) : ∃ x y r, Value.category x = 1 ∧ Value.category y = 1 ∧ n = 1 ∧ st = x :: y :: r ∧ z = (pc + 1, ls, x :: y :: x :: r) := by
  unfold dpx at h; split at h
  all_goals first | (cases h; exact ⟨_, _, _, rfl, rfl, rfl, rfl, rfl⟩) | cases h
theorem dp2_inv (h : dp2 n pc ls st = some z) : (∃ x r, n = 1 ∧ st = .long x :: r ∧ z = (pc + 1, ls, .long x :: .long x :: r)) ∨ ∃ x y r, Value.category x = 1 ∧ Value.category y = 1 ∧ n = 1 ∧ st = x :: y :: r ∧ z = (pc + 1, ls, x :: y :: x :: y :: r) := by
  unfold dp2 at h; split at h
  all_goals first | (cases h; exact Or.inl ⟨_, _, rfl, rfl, rfl⟩) | (cases h; exact Or.inr ⟨_, _, _, rfl, rfl, rfl, rfl, rfl⟩) | cases h
theorem pp_inv (h : pp n pc ls st = some z) : ∃ x r, Value.category x = 1 ∧ n = 1 ∧ st = x :: r ∧ z = (pc + 1, ls, r) := by
  unfold pp at h; split at h
  all_goals first | (cases h; exact ⟨_, _, rfl, rfl, rfl, rfl⟩) | cases h
theorem gt_inv {o : Int} (h : gt o n pc ls st = some z) : n = 3 ∧ 0 ≤ (pc : Int) + o ∧ z = (((pc : Int) + o).toNat, ls, st) := by
  unfold gt at h; split at h
  · split at h
    · cases h; exact ⟨by assumption, by assumption, rfl⟩
    · cases h
  · cases h
theorem inc_inv {d : Int} (h : inc k d n pc ls st = some z) : ∃ x l', n = 3 ∧ ls[k]? = some (.val (.int x)) ∧ storeLocals ls.toArray k (.int (x + Int32.ofInt d)) = some l' ∧ z = (pc + 3, l'.toList, st) := by
  unfold inc at h; split at h
  · obtain ⟨l', a, b, c⟩ := sv_inv h; exact ⟨_, l', a, by assumption, b, c⟩
  · cases h
end Inv
theorem arrL {ls : List Slot} {k : Nat} {v : Slot} (h : ls[k]? = some v) : ls.toArray[k]? = some v := by simpa using h
theorem st1_ok {p : Program} {e : Env} {below : List Frame} {T target : State} {m : MethodId} {c : Code} (hA : At T m c below) (hx : p.tables.exec = Jvm.exec) {i : Instr} {n pc : Nat} {ls : List Slot} {st : List Value} {z : Cf} (hd : decode c.code pc = .ok (i, n)) (h : st1 i n pc ls st = some z)
    (hr : Steps p.tables e below (T.setTop (mkF m z.1 z.2.1.toArray z.2.2)) target) : Steps p.tables e below (T.setTop (mkF m pc ls.toArray st)) target := by
  cases i
  case iload_n k => obtain ⟨v, rfl, hl, rfl⟩ := gi_inv h; exact XS.iloadN hA hx rfl hd (arrL hl) hr
  case iload k => obtain ⟨v, rfl, hl, rfl⟩ := gi_inv h; exact XS.iload hA hx rfl hd (arrL hl) hr
  case lload_n k => obtain ⟨v, rfl, hl, rfl⟩ := gl_inv h; exact XT.lloadN hA hx rfl hd (arrL hl) hr
  case lload k => obtain ⟨v, rfl, hl, rfl⟩ := gl_inv h; exact XT.lload hA hx rfl hd (arrL hl) hr
  case aload_n k => obtain ⟨v, hv, rfl, hl, rfl⟩ := ga_inv h; exact XS.aloadN hA hx rfl hd (arrL hl) hv hr
  case aload k => obtain ⟨v, hv, rfl, hl, rfl⟩ := ga_inv h; exact XS.aload hA hx rfl hd (arrL hl) hv hr
  case istore_n k => obtain ⟨x, r, l', rfl, rfl, hl, rfl⟩ := si_inv h; exact XS.istoreN hA hx rfl hd rfl hl hr
  case istore k => obtain ⟨x, r, l', rfl, rfl, hl, rfl⟩ := si_inv h; exact XS.istore hA hx rfl hd rfl hl hr
  case lstore_n k => obtain ⟨x, r, l', rfl, rfl, hl, rfl⟩ := sl_inv h; exact XT.lstoreN hA hx rfl hd rfl hl hr
  case lstore k => obtain ⟨x, r, l', rfl, rfl, hl, rfl⟩ := sl_inv h; exact XT.lstore hA hx rfl hd rfl hl hr
  case astore_n k => obtain ⟨x, r, l', hv, rfl, rfl, hl, rfl⟩ := sa_inv h; exact XS.astoreN hA hx rfl hd rfl hv hl hr
  case astore k => obtain ⟨x, r, l', hv, rfl, rfl, hl, rfl⟩ := sa_inv h; exact XS.astore hA hx rfl hd rfl hv hl hr
  case iconst k => obtain ⟨rfl, rfl⟩ := cn_inv h; exact XS.iconst hA hx rfl hd hr
  case bipush k => obtain ⟨rfl, rfl⟩ := cn_inv h; exact XS.bipush hA hx rfl hd hr
  case sipush k => obtain ⟨rfl, rfl⟩ := cn_inv h; exact XS.sipush hA hx rfl hd hr
  case lconst k => obtain ⟨rfl, rfl⟩ := cn_inv h; exact XT.lconst hA hx rfl hd hr
  case aconst_null => obtain ⟨rfl, rfl⟩ := cn_inv h; exact XS.aconstNull hA hx rfl hd hr
  case iadd => obtain ⟨y, x, r, rfl, rfl, rfl⟩ := b2_inv h; exact XS.iadd hA hx rfl hd rfl hr
  case isub => obtain ⟨y, x, r, rfl, rfl, rfl⟩ := b2_inv h; exact XS.isub hA hx rfl hd rfl hr
  case imul => obtain ⟨y, x, r, rfl, rfl, rfl⟩ := b2_inv h; exact XS.imul hA hx rfl hd rfl hr
  case iand => obtain ⟨y, x, r, rfl, rfl, rfl⟩ := b2_inv h; exact XS.iand hA hx rfl hd rfl hr
  case ior => obtain ⟨y, x, r, rfl, rfl, rfl⟩ := b2_inv h; exact XT.ior hA hx rfl hd rfl hr
  case ixor => obtain ⟨y, x, r, rfl, rfl, rfl⟩ := b2_inv h; exact XT.ixor hA hx rfl hd rfl hr
  case ishl => obtain ⟨y, x, r, rfl, rfl, rfl⟩ := b2_inv h; exact XT.ishl hA hx rfl hd rfl hr
  case ishr => obtain ⟨y, x, r, rfl, rfl, rfl⟩ := b2_inv h; exact XT.ishr hA hx rfl hd rfl hr
  case iushr => obtain ⟨y, x, r, rfl, rfl, rfl⟩ := b2_inv h; exact XS.iushr hA hx rfl hd rfl hr
  case ladd => obtain ⟨y, x, r, rfl, rfl, rfl⟩ := b2l_inv h; exact XT.ladd hA hx rfl hd rfl hr
  case lsub => obtain ⟨y, x, r, rfl, rfl, rfl⟩ := b2l_inv h; exact XT.lsub hA hx rfl hd rfl hr
  case lmul => obtain ⟨y, x, r, rfl, rfl, rfl⟩ := b2l_inv h; exact XT.lmul hA hx rfl hd rfl hr
  case land => obtain ⟨y, x, r, rfl, rfl, rfl⟩ := b2l_inv h; exact XT.land hA hx rfl hd rfl hr
  case lor => obtain ⟨y, x, r, rfl, rfl, rfl⟩ := b2l_inv h; exact XT.lor hA hx rfl hd rfl hr
  case lxor => obtain ⟨y, x, r, rfl, rfl, rfl⟩ := b2l_inv h; exact XT.lxor hA hx rfl hd rfl hr
  case lshl => obtain ⟨y, x, r, rfl, rfl, rfl⟩ := bsl_inv h; exact XS.lshl hA hx rfl hd rfl hr
  case lshr => obtain ⟨y, x, r, rfl, rfl, rfl⟩ := bsl_inv h; exact XS.lshr hA hx rfl hd rfl hr
  case lushr => obtain ⟨y, x, r, rfl, rfl, rfl⟩ := bsl_inv h; exact XS.lushr hA hx rfl hd rfl hr
  case lcmp => obtain ⟨y, x, r, rfl, rfl, rfl⟩ := ucm_inv h; exact XT.lcmp hA hx rfl hd rfl hr
  case ineg => obtain ⟨x, r, rfl, rfl, rfl⟩ := u1_inv h; exact XS.ineg hA hx rfl hd rfl hr
  case i2b => obtain ⟨x, r, rfl, rfl, rfl⟩ := u1_inv h; exact XT.i2b hA hx rfl hd rfl hr
  case i2c => obtain ⟨x, r, rfl, rfl, rfl⟩ := u1_inv h; exact XT.i2c hA hx rfl hd rfl hr
  case i2s => obtain ⟨x, r, rfl, rfl, rfl⟩ := u1_inv h; exact XT.i2s hA hx rfl hd rfl hr
  case i2l => obtain ⟨x, r, rfl, rfl, rfl⟩ := u1_inv h; exact XT.i2l hA hx rfl hd rfl hr
  case l2i => obtain ⟨x, r, rfl, rfl, rfl⟩ := u1l_inv h; exact XT.l2i hA hx rfl hd rfl hr
  case lneg => obtain ⟨x, r, rfl, rfl, rfl⟩ := u1l_inv h; exact XT.lneg hA hx rfl hd rfl hr
  case dup => obtain ⟨x, r, hc, rfl, rfl, rfl⟩ := dpp_inv h; exact XS.dup hA hx rfl hd rfl hc hr
  case dup_x1 => obtain ⟨x, y, r, hc, hc', rfl, rfl, rfl⟩ := dpx_inv h; exact XT.dupX1 hA hx rfl hd rfl hc hc' hr
  case dup2 =>
    rcases dp2_inv h with ⟨x, r, rfl, rfl, rfl⟩ | ⟨x, y, r, hc, hc', rfl, rfl, rfl⟩
    · exact XT.dup2L hA hx rfl hd rfl hr
    · exact XT.dup2 hA hx rfl hd rfl hc hc' hr
  case pop => obtain ⟨x, r, hc, rfl, rfl, rfl⟩ := pp_inv h; exact XT.pop hA hx rfl hd rfl hc hr
  case goto o => obtain ⟨rfl, ho, rfl⟩ := gt_inv h; exact XS.goto hA hx rfl rfl hd ho rfl hr
  case iinc k d => obtain ⟨x, l', rfl, hl, hl', rfl⟩ := inc_inv h; exact XS.iinc hA hx rfl hd (arrL hl) hl' hr
  all_goals exact absurd (show (none : Option Cf) = some z from h) (by simp)
def runB : Nat → Prog → Nat → List Slot → List Value → Option Cf
  | 0, _, pc, ls, st => some (pc, ls, st)
  | _ + 1, [], _, _, _ => none
  | k + 1, (q, i, n) :: B, pc, ls, st => if q = pc then (match st1 i n pc ls st with
    | some z => runB k B z.1 z.2.1 z.2.2
    | none => none) else none
theorem runB_ok {p : Program} {e : Env} {below : List Frame} {T target : State} {m : MethodId} {c : Code} (hA : At T m c below) (hx : p.tables.exec = Jvm.exec) {z : Cf} (hr : Steps p.tables e below (T.setTop (mkF m z.1 z.2.1.toArray z.2.2)) target) :
    ∀ (k : Nat) (B : Prog), okB c.code B = true → ∀ (pc : Nat) (ls : List Slot) (st : List Value), runB k B pc ls st = some z → Steps p.tables e below (T.setTop (mkF m pc ls.toArray st)) target
  | 0, B, _, pc, ls, st, h => by
    cases B <;> (unfold runB at h; cases h; exact hr)
  | k + 1, [], _, pc, ls, st, h => by unfold runB at h; cases h
  | k + 1, (q, i, n) :: B, hB, pc, ls, st, h => by
    unfold runB at h
    split at h
    · rename_i e; subst e
      split at h
      · rename_i w hw
        simp only [okB, Bool.and_eq_true, decide_eq_true_eq] at hB
        exact st1_ok hA hx hB.1 hw (runB_ok hA hx hr k B hB.2 _ _ _ h)
      · cases h
    · cases h
theorem okB_drop {code : ByteArray} : ∀ (j : Nat) {B : Prog}, okB code B = true → okB code (B.drop j) = true
  | 0, _, h => h
  | _ + 1, [], _ => rfl
  | j + 1, _ :: B, h => by
    simp only [okB, Bool.and_eq_true] at h
    exact okB_drop j h.2
end Jvm.Wk
namespace Jvm.Wk
open Sem ClassFile Op Lib Jvm.Stand Jvm.Free Jvm.LawKit Jvm.RoadKit
/-! THE WALK'S GOAL, over the symbolic heap: from this configuration the invocation returns, and what it returns and leaves is as G says. -/
abbrev Cxt : Type := Launch × Program × Env × Room × State × MethodId × Array Value × List Frame × Method × Code × State × List (String × Nat) × Bool × (Option Value → List Item → Prop) × List Item
def Fin (R : Room) (s : State) (Z : State) (EL : List (String × Nat)) (nw : Bool) (G : Option Value → List Item → Prop) (F : List Item) (o : Outcome) (t : State) : Prop :=
  ∃ (v : Option Value) (Lc : List Loc) (L' : List Item), o = .returned v ∧ G v L' ∧ Hp Z EL t.vm t.heap (L' ++ F) ∧ Fr Z.heap.size Lc ∧ (nw = true → s.WarmedH t.vm) ∧ s.heap.size ≤ t.heap.size ∧ ReturnedEndW s o t Lc R.cells R.slots
def Wp : Cxt → Nat → Nat → List Item → Nat → List Slot → List Value → Prop
  | (l, p, e, R, s, m, args, below, meth, c, Z, EL, nw, G, F), cells, slots, L, pc, ls, st =>
    ∀ (vm0 : Vm) (k0 : Nat) (T : State) (locs : List Loc), Stand p l e R (s.setVm vm0) m args below meth c T locs cells slots → s.Since vm0 k0 → k0 ≤ T.heap.size → (nw = true → s.WarmedH vm0) → Z.Warmed39 vm0 → Fr Z.heap.size locs → s.heap.size ≤ T.heap.size → Hp Z EL vm0 T.heap (L ++ F) →
      ∃ t o, Steps p.tables e below (T.setTop (mkF m pc ls.toArray st)) t ∧ t.status = .running ∧ Ended t below o ∧ Fin R s Z EL nw G F o t
def Cx (K : Cxt) (l : Launch) (Z : State) (a0 : Array Value) (EL : List (String × Nat)) (nw : Bool) (y : MethodName) (bytes : ByteArray) (maxL : Nat) (ret : Option FieldType) (rm : Room) (G : Option Value → List Item → Prop) (B : Prog) : Prop :=
  ∃ (p : Program) (e : Env) (s : State) (m : MethodId) (args : Array Value) (below : List Frame) (meth : Method) (c : Code) (F : List Item), K = (l, p, e, rm, s, m, args, below, meth, c, Z, EL, nw, G, F) ∧ p.tables.exec = Jvm.exec ∧ c.code = bytes ∧ c.maxLocals = maxL ∧ meth.sig.returnType = ret ∧ meth.locks = false ∧ s.vm.findClass y.cls = some m.cls ∧ meth.name = y.name ∧ EW Z a0 EL ∧ okB bytes B = true
/-- A BODY's CONTRACT: asked at the arguments 'as' in a heap that holds L and whatever else (F); it gives back v and the items L' (F as it was) -/
def Ct (l : Launch) (Z : State) (EL : List (String × Nat)) (nw : Bool) (y : MethodName) (bytes : ByteArray) (maxL : Nat) (ret : Option FieldType) (ws : List Cond) (rm : Room) (as : List Value) (L : List Item) (G : Option Value → List Item → Prop) : Prop :=
  ∀ F : List Item, MetFree l y (head1 (Cond.code y bytes maxL ret :: ws) rm) (fun a U => a = as.toArray ∧ Z.Warmed39 U.vm ∧ Hp Z EL U.vm U.heap (L ++ F)) (fun _ _ _ _ _ => True) (fun _ U o U' => Fin rm U Z EL nw G F o U')
section Rules
variable {K : Cxt} {l : Launch} {Z : State} {a0 : Array Value} {EL : List (String × Nat)} {nw : Bool} {y : MethodName} {bytes : ByteArray} {maxL : Nat} {ret : Option FieldType} {rm : Room} {G : Option Value → List Item → Prop} {B : Prog} {cells slots pc j : Nat} {L : List Item} {ls : List Slot} {st : List Value}
theorem Hp.at {p : Program} {e : Env} {R : Room} {s : State} {m : MethodId} {args : Array Value} {below : List Frame} {meth : Method} {c : Code} {T : State} {locs : List Loc} {vm0 : Vm} {h : Heap} (X : Stand p l e R (s.setVm vm0) m args below meth c T locs cells slots) (hZ : Z.Warmed39 vm0) (w : EW Z a0 EL) (H : Hp Z EL vm0 h L) : Hp Z EL T.vm h L :=
  H.later ⟨Nat.le_refl _, fun _ _ q => q⟩ (CHv.at X hZ w H.2.1)
theorem ct_of {as : List Value} {ws : List Cond} (hpl : plainFor y = true) (hB : okB bytes B = true) (hEL : EW Z a0 EL) (he : ∀ m : MethodId, entryFrame m as.toArray maxL = mkF m 0 ls.toArray [])
    (body : ∀ K, Cx K l Z a0 EL nw y bytes maxL ret rm G B → Wp K 0 0 L 0 ls []) : Ct l Z EL nw y bytes maxL ret ws rm as L G := by
  intro F
  refine MetFree.of_bodySF hpl hisR ?_
  intro p e s m args below meth c s₁ Bd hml0 hP hK
  obtain ⟨rfl, hZ, hH⟩ := hP
  have X0 : Stand p l e rm (s.setVm s.vm) m as.toArray below meth c s₁ [] 0 0 := Stand.of_body Bd
  have hh : s₁.heap = s.heap := by rw [Bd.state]; rfl
  have hb := body (l, p, e, rm, s, m, as.toArray, below, meth, c, Z, EL, nw, G, F) ⟨p, e, s, m, as.toArray, below, meth, c, F, rfl, Bd.exec, Bd.bytes, hml0, Bd.returns, Bd.notSynchronized, findClass_of_methodNamed Bd.named, (name_of_methodNamed Bd.named Bd.method).1, hEL, hB⟩
  obtain ⟨t, o, h1, h2, h3, h4⟩ := hb s.vm 0 s₁ [] X0 ((State.WarmedH.refl s).since 0) (Nat.zero_le _) (fun _ => State.WarmedH.refl s) hZ (Fr.nil _) (Nat.le_of_eq (by rw [hh])) (by rw [hh]; exact hH)
  exact ⟨t, o, castTop (he m) h1, h2, h3, h4⟩
theorem ct_ws {as : List Value} (h : ∀ ws, Ct l Z EL nw y bytes maxL ret ws rm as L G) : Ct l Z EL nw y bytes maxL ret [] rm as L G := h []
theorem wp_blk (C : Cx K l Z a0 EL nw y bytes maxL ret rm G B) (j n : Nat) {pc' : Nat} {ls' : List Slot} {st' : List Value} (hr : runB n (B.drop j) pc ls st = some (pc', ls', st')) (k : Wp K cells slots L pc' ls' st') : Wp K cells slots L pc ls st := by
  obtain ⟨p, e, s, m, args, below, meth, c, F, rfl, hx, hb, -, -, -, -, -, -, hB⟩ := C
  intro vm0 k0 T locs X hS hk hn hZ hF hg hH
  obtain ⟨t, o, h1, h2⟩ := k vm0 k0 T locs X hS hk hn hZ hF hg hH
  exact ⟨t, o, runB_ok X.here hx h1 n (B.drop j) (by rw [hb]; exact okB_drop j hB) pc ls st hr, h2⟩
/-- a step that leaves the heap and moves the tables at most -/
theorem wp_step (C : Cx K l Z a0 EL nw y bytes maxL ret rm G B) {pc' : Nat} {ls' : List Slot} {st' : List Value}
    (hs : ∀ (p : Program) (e : Env) (s : State) (m : MethodId) (args : Array Value) (below : List Frame) (meth : Method) (c : Code) (vm0 : Vm) (T : State) (locs : List Loc) (F : List Item), p.tables.exec = Jvm.exec → c.code = bytes → c.maxLocals = maxL → (s.setVm vm0).vm.findClass y.cls = some m.cls → Z.Warmed39 vm0 → Hp Z EL vm0 T.heap (L ++ F) →
      Stand p l e rm (s.setVm vm0) m args below meth c T locs cells slots → ∃ T', Stand p l e rm (s.setVm vm0) m args below meth c T' locs cells slots ∧ T'.heap = T.heap ∧ ∀ target, Steps p.tables e below (T'.setTop (mkF m pc' ls'.toArray st')) target → Steps p.tables e below (T.setTop (mkF m pc ls.toArray st)) target)
    (k : Wp K cells slots L pc' ls' st') : Wp K cells slots L pc ls st := by
  obtain ⟨p, e, s, m, args, below, meth, c, F, rfl, hx, hb, hml, hret, hlk, hown, hnm, hEL, hB⟩ := C
  intro vm0 k0 T locs X hS hk hn hZ hF hg hH
  obtain ⟨T', X', eh, stp⟩ := hs p e s m args below meth c vm0 T locs F hx hb hml (by rw [show (s.setVm vm0).vm = vm0 from rfl, hS.1.alike.findClass]; exact hown) hZ hH X
  obtain ⟨t, o, h1, h2⟩ := k vm0 k0 T' locs X' hS (by rw [eh]; exact hk) hn hZ hF (by rw [eh]; exact hg) (by rw [eh]; exact hH)
  exact ⟨t, o, stp t h1, h2⟩
/-- a step that makes one cell -/
theorem wp_make (C : Cx K l Z a0 EL nw y bytes maxL ret rm G B) {pc' cells' slots' : Nat} {ls' : List Slot} {st' : Addr → List Value} {D : Kd ⊕ FieldType} {vs : List Value}
    (hs : ∀ (p : Program) (e : Env) (s : State) (m : MethodId) (args : Array Value) (below : List Frame) (meth : Method) (c : Code) (vm0 : Vm) (T : State) (locs : List Loc), p.tables.exec = Jvm.exec → c.code = bytes → (s.setVm vm0).vm.findClass y.cls = some m.cls → Z.Warmed39 vm0 →
      Stand p l e rm (s.setVm vm0) m args below meth c T locs cells slots → ∃ T', Stand p l e rm (s.setVm vm0) m args below meth c T' locs cells' slots' ∧ Ext T.heap T'.heap ∧ It Z T'.heap (T.heap.size, true, D, vs) ∧ ∀ target, Steps p.tables e below (T'.setTop (mkF m pc' ls'.toArray (st' T.heap.size))) target → Steps p.tables e below (T.setTop (mkF m pc ls.toArray st)) target)
    (k : ∀ a : Addr, Wp K cells' slots' ((a, true, D, vs) :: L) pc' ls' (st' a)) : Wp K cells slots L pc ls st := by
  obtain ⟨p, e, s, m, args, below, meth, c, F, rfl, hx, hb, hml, hret, hlk, hown, hnm, hEL, hB⟩ := C
  intro vm0 k0 T locs X hS hk hn hZ hF hg hH
  obtain ⟨T', X', E, I, stp⟩ := hs p e s m args below meth c vm0 T locs hx hb (by rw [show (s.setVm vm0).vm = vm0 from rfl, hS.1.alike.findClass]; exact hown) hZ X
  obtain ⟨t, o, h1, h2⟩ := k T.heap.size vm0 k0 T' locs X' hS (Nat.le_trans hk E.1) hn hZ hF (Nat.le_trans hg E.1) (hH.push E I)
  exact ⟨t, o, stp t h1, h2⟩
/-- a step that writes one place of one known, new cell -/
theorem wp_write (C : Cx K l Z a0 EL nw y bytes maxL ret rm G B) {pc' i : Nat} {ls' : List Slot} {st' : List Value} {a : Addr} {D : Kd ⊕ FieldType} {vs vs' : List Value} (hi : L[i]? = some (a, true, D, vs))
    (hs : ∀ (p : Program) (e : Env) (s : State) (m : MethodId) (args : Array Value) (below : List Frame) (meth : Method) (c : Code) (vm0 : Vm) (T : State) (locs : List Loc), p.tables.exec = Jvm.exec → c.code = bytes → (s.setVm vm0).vm.findClass y.cls = some m.cls → meth.name = y.name → Z.Warmed39 vm0 → It Z T.heap (a, true, D, vs) →
      Stand p l e rm (s.setVm vm0) m args below meth c T locs cells slots → ∃ T' sl v, Stand p l e rm (s.setVm vm0) m args below meth c T' (locs ++ [⟨a, sl⟩]) cells slots ∧ Wr T.heap T'.heap a sl v ∧ It Z T'.heap (a, true, D, vs') ∧ ∀ target, Steps p.tables e below (T'.setTop (mkF m pc' ls'.toArray st')) target → Steps p.tables e below (T.setTop (mkF m pc ls.toArray st)) target)
    (k : Wp K cells slots (L.set i (a, true, D, vs')) pc' ls' st') : Wp K cells slots L pc ls st := by
  obtain ⟨p, e, s, m, args, below, meth, c, F, rfl, hx, hb, hml, hret, hlk, hown, hnm, hEL, hB⟩ := C
  intro vm0 k0 T locs X hS hk hn hZ hF hg hH
  obtain ⟨T', sl, v, X', W, I, stp⟩ := hs p e s m args below meth c vm0 T locs hx hb (by rw [show (s.setVm vm0).vm = vm0 from rfl, hS.1.alike.findClass]; exact hown) hnm hZ (hH.2.2.1 _ (List.mem_of_getElem? (app_at hi))) X
  have hH' := hH.put (app_at hi) W I
  rw [app_set hi] at hH'
  obtain ⟨t, o, h1, h2⟩ := k vm0 k0 T' _ X' hS (by rw [W.size]; exact hk) hn hZ (Fr.snoc X' hF (hH.new (app_at hi)).1) (by rw [W.size]; exact hg) hH'
  exact ⟨t, o, stp t h1, h2⟩
/-- the world in another order; fewer of it; more of it (old objects) -/
theorem wp_perm {L' : List Item} (C : Cx K l Z a0 EL nw y bytes maxL ret rm G B) (q : L.Perm L') (k : Wp K cells slots L' pc ls st) : Wp K cells slots L pc ls st := by
  obtain ⟨p, e, s, m, args, below, meth, c, F, rfl, -⟩ := C
  intro vm0 k0 T locs X hS hk hn hZ hF hg hH
  exact k vm0 k0 T locs X hS hk hn hZ hF hg (hH.perm (q.append_right F))
theorem wp_sub {L' : List Item} (C : Cx K l Z a0 EL nw y bytes maxL ret rm G B) (q : L'.Sublist L) (k : Wp K cells slots L' pc ls st) : Wp K cells slots L pc ls st := by
  obtain ⟨p, e, s, m, args, below, meth, c, F, rfl, -⟩ := C
  intro vm0 k0 T locs X hS hk hn hZ hF hg hH
  exact k vm0 k0 T locs X hS hk hn hZ hF hg (hH.sub (q.append_right F))
theorem wp_old {a : Addr} {D : Kd ⊕ FieldType} {vs : List Value} (C : Cx K l Z a0 EL nw y bytes maxL ret rm G B) (I : It Z Z.heap (a, false, D, vs)) (k : Wp K cells slots ((a, false, D, vs) :: L) pc ls st) : Wp K cells slots L pc ls st := by
  obtain ⟨p, e, s, m, args, below, meth, c, F, rfl, -⟩ := C
  intro vm0 k0 T locs X hS hk hn hZ hF hg hH
  refine k vm0 k0 T locs X hS hk hn hZ hF hg (hH.add (fun q hq hw => Nat.ne_of_lt (Nat.lt_of_lt_of_le I.lt (hH.2.2.2.2 q hq hw).1)) (I.ext hH.1))
def front (i : Nat) (L : List Item) : List Item := match L[i]? with
  | some x => x :: L.eraseIdx i
  | none => L
theorem er_perm : ∀ (i : Nat) (L : List Item) (x : Item), L[i]? = some x → L.Perm (x :: L.eraseIdx i)
  | _, [], _, h => by simp at h
  | 0, z :: L, x, h => by
    simp only [List.getElem?_cons_zero, Option.some.injEq] at h
    subst h; exact List.Perm.refl _
  | i + 1, z :: L, x, h => by
    rw [List.getElem?_cons_succ] at h
    exact (List.Perm.cons z (er_perm i L x h)).trans (List.Perm.swap x z _)
theorem front_perm (i : Nat) (L : List Item) : L.Perm (front i L) := by
  unfold front
  split
  · rename_i x hx
    exact er_perm i L x hx
  · exact List.Perm.refl _
theorem wp_front (C : Cx K l Z a0 EL nw y bytes maxL ret rm G B) (i : Nat) {L' : List Item} (e : front i L = L') (k : Wp K cells slots L' pc ls st) : Wp K cells slots L pc ls st := wp_perm C (e ▸ front_perm i L) k
theorem wp_drop (C : Cx K l Z a0 EL nw y bytes maxL ret rm G B) (i : Nat) {L' : List Item} (e : L.eraseIdx i = L') (k : Wp K cells slots L' pc ls st) : Wp K cells slots L pc ls st := wp_sub C (e ▸ List.eraseIdx_sublist L i) k
theorem stand_mono {p : Program} {e : Env} {R : Room} {s : State} {m : MethodId} {args : Array Value} {below : List Frame} {meth : Method} {c : Code} {T : State} {locs : List Loc} {cells slots cells' slots' : Nat} (X : Stand p l e R s m args below meth c T locs cells slots) (h1 : cells ≤ cells') (h2 : slots ≤ slots') : Stand p l e R s m args below meth c T locs cells' slots' :=
  ⟨X.admits, X.cas, X.clock, X.frames, X.room, X.hears, X.method, X.code, X.here, X.tail, X.warmed, X.limits, X.bytes, X.same.mono h1 h2⟩
/-- more booked than used -/
theorem wp_mono {cells' slots' : Nat} (C : Cx K l Z a0 EL nw y bytes maxL ret rm G B) (h1 : cells ≤ cells') (h2 : slots ≤ slots') (k : Wp K cells' slots' L pc ls st) : Wp K cells slots L pc ls st := by
  obtain ⟨p, e, s, m, args, below, meth, c, F, rfl, -⟩ := C
  intro vm0 k0 T locs X hS hk hn hZ hF hg hH
  exact k vm0 k0 T locs (stand_mono X h1 h2) hS hk hn hZ hF hg hH
/-! branches -/
theorem Cx.dec (C : Cx K l Z a0 EL nw y bytes maxL ret rm G B) {i : Instr} {n : Nat} (hi : B[j]? = some (pc, i, n)) {c : Code} (hb : c.code = bytes) : decode c.code pc = .ok (i, n) := by
  obtain ⟨p', e', s', m', args', below', meth', c', F', -, -, -, -, -, -, -, -, -, hB⟩ := C
  rw [hb]; exact okB_at hB hi
theorem wp_if (C : Cx K l Z a0 EL nw y bytes maxL ret rm G B) {cd : ClassFile.Cond} {o : Int} {pc' : Nat} {x : Int32} (j : Nat) (hi : B[j]? = some (pc, .ifCond cd o, 3)) (hp : ((pc : Int) + o).toNat = pc') (ho : 0 ≤ (pc : Int) + o)
    (k1 : ifCond.holds cd x = true → Wp K cells slots L pc' ls st) (k2 : ifCond.holds cd x = false → Wp K cells slots L (pc + 3) ls st) : Wp K cells slots L pc ls (.int x :: st) := by
  cases hc : ifCond.holds cd x with
  | true => exact wp_step C (fun p e s m args below meth c vm0 T locs F hx hb hml hown hZ hH X => ⟨T, X, rfl, fun t h => XS.ifYes X.here hx rfl rfl (C.dec hi hb) rfl hc ho hp h⟩) (k1 hc)
  | false => exact wp_step C (fun p e s m args below meth c vm0 T locs F hx hb hml hown hZ hH X => ⟨T, X, rfl, fun t h => XS.ifNo X.here hx rfl (C.dec hi hb) rfl hc h⟩) (k2 hc)
theorem wp_ic (C : Cx K l Z a0 EL nw y bytes maxL ret rm G B) {cd : ClassFile.Cond} {o : Int} {pc' : Nat} {x z : Int32} (j : Nat) (hi : B[j]? = some (pc, .if_icmp cd o, 3)) (hp : ((pc : Int) + o).toNat = pc') (ho : 0 ≤ (pc : Int) + o)
    (k1 : if_icmp.holds cd x z = true → Wp K cells slots L pc' ls st) (k2 : if_icmp.holds cd x z = false → Wp K cells slots L (pc + 3) ls st) : Wp K cells slots L pc ls (.int z :: .int x :: st) := by
  cases hc : if_icmp.holds cd x z with
  | true => exact wp_step C (fun p e s m args below meth c vm0 T locs F hx hb hml hown hZ hH X => ⟨T, X, rfl, fun t h => XS.icmpYes X.here hx rfl rfl (C.dec hi hb) rfl hc ho hp h⟩) (k1 hc)
  | false => exact wp_step C (fun p e s m args below meth c vm0 T locs F hx hb hml hown hZ hH X => ⟨T, X, rfl, fun t h => XS.icmpNo X.here hx rfl (C.dec hi hb) rfl hc h⟩) (k2 hc)
def cT (cd : ClassFile.Cond) (x z : Int32) : Prop := match cd with
  | .eq => x = z | .ne => x ≠ z | .lt => x.toInt < z.toInt | .ge => z.toInt ≤ x.toInt | .gt => z.toInt < x.toInt | .le => x.toInt ≤ z.toInt
def cF (cd : ClassFile.Cond) (x z : Int32) : Prop := match cd with
  | .eq => x ≠ z | .ne => x = z | .lt => z.toInt ≤ x.toInt | .ge => x.toInt < z.toInt | .gt => x.toInt ≤ z.toInt | .le => z.toInt < x.toInt
theorem ic_t {cd : ClassFile.Cond} {x z : Int32} (h : if_icmp.holds cd x z = true) : cT cd x z := by
  cases cd <;> simp_all [if_icmp.holds, cT, Int32.lt_iff_toInt_lt, Int32.le_iff_toInt_le]
theorem ic_f {cd : ClassFile.Cond} {x z : Int32} (h : if_icmp.holds cd x z = false) : cF cd x z := by
  cases cd <;> simp_all [if_icmp.holds, cF, Int32.lt_iff_toInt_lt, Int32.le_iff_toInt_le]
theorem wp_icmp (C : Cx K l Z a0 EL nw y bytes maxL ret rm G B) {cd : ClassFile.Cond} {o : Int} {x z : Int32} (j pc' pc2 : Nat) (hi : B[j]? = some (pc, .if_icmp cd o, 3)) (hp : ((pc : Int) + o).toNat = pc') (h2 : pc + 3 = pc2) (ho : 0 ≤ (pc : Int) + o)
    (k1 : cT cd x z → Wp K cells slots L pc' ls st) (k2 : cF cd x z → Wp K cells slots L pc2 ls st) : Wp K cells slots L pc ls (.int z :: .int x :: st) := by
  subst h2; exact wp_ic C j hi hp ho (fun h => k1 (ic_t h)) (fun h => k2 (ic_f h))
theorem wp_ifz (C : Cx K l Z a0 EL nw y bytes maxL ret rm G B) {cd : ClassFile.Cond} {o : Int} {x : Int32} (j pc' pc2 : Nat) (hi : B[j]? = some (pc, .ifCond cd o, 3)) (hp : ((pc : Int) + o).toNat = pc') (h2 : pc + 3 = pc2) (ho : 0 ≤ (pc : Int) + o)
    (k1 : cT cd x 0 → Wp K cells slots L pc' ls st) (k2 : cF cd x 0 → Wp K cells slots L pc2 ls st) : Wp K cells slots L pc ls (.int x :: st) := by
  subst h2; exact wp_if C j hi hp ho (fun h => k1 (ic_t (by rw [← if0]; exact h))) (fun h => k2 (ic_f (by rw [← if0]; exact h)))
theorem wp_nullY (C : Cx K l Z a0 EL nw y bytes maxL ret rm G B) {o : Int} (j pc' : Nat) (hi : B[j]? = some (pc, .ifnull o, 3)) (hp : ((pc : Int) + o).toNat = pc') (ho : 0 ≤ (pc : Int) + o) (k : Wp K cells slots L pc' ls st) : Wp K cells slots L pc ls (.null :: st) :=
  wp_step C (fun p e s m args below meth c vm0 T locs F hx hb hml hown hZ hH X => ⟨T, X, rfl, fun t h => XS.ifnullYes X.here hx rfl rfl (C.dec hi hb) rfl ho hp h⟩) k
theorem wp_nullN (C : Cx K l Z a0 EL nw y bytes maxL ret rm G B) {o : Int} {b : Addr} (j pc' : Nat) (hi : B[j]? = some (pc, .ifnull o, 3)) (hp : pc + 3 = pc') (k : Wp K cells slots L pc' ls st) : Wp K cells slots L pc ls (.ref b :: st) := by
  subst hp
  exact wp_step C (fun p e s m args below meth c vm0 T locs F hx hb hml hown hZ hH X => ⟨T, X, rfl, fun t h => XS.ifnullNo X.here hx rfl (C.dec hi hb) rfl h⟩) k
theorem wp_nonnullY (C : Cx K l Z a0 EL nw y bytes maxL ret rm G B) {o : Int} {b : Addr} (j pc' : Nat) (hi : B[j]? = some (pc, .ifnonnull o, 3)) (hp : ((pc : Int) + o).toNat = pc') (ho : 0 ≤ (pc : Int) + o) (k : Wp K cells slots L pc' ls st) : Wp K cells slots L pc ls (.ref b :: st) :=
  wp_step C (fun p e s m args below meth c vm0 T locs F hx hb hml hown hZ hH X => ⟨T, X, rfl, fun t h => XT.ifnonnullYes X.here hx rfl rfl (C.dec hi hb) rfl ho hp h⟩) k
theorem wp_nonnullN (C : Cx K l Z a0 EL nw y bytes maxL ret rm G B) {o : Int} (j pc' : Nat) (hi : B[j]? = some (pc, .ifnonnull o, 3)) (hp : pc + 3 = pc') (k : Wp K cells slots L pc' ls st) : Wp K cells slots L pc ls (.null :: st) := by
  subst hp
  exact wp_step C (fun p e s m args below meth c vm0 T locs F hx hb hml hown hZ hH X => ⟨T, X, rfl, fun t h => XT.ifnonnullNo X.here hx rfl (C.dec hi hb) rfl h⟩) k
theorem wp_acY (C : Cx K l Z a0 EL nw y bytes maxL ret rm G B) {cd : ACond} {o : Int} {u w : Value} (j pc' : Nat) (hi : B[j]? = some (pc, .if_acmp cd o, 3)) (hu : u.isRef = true) (hw : w.isRef = true) (hc : XT.acmp cd u w = true) (hp : ((pc : Int) + o).toNat = pc') (ho : 0 ≤ (pc : Int) + o) (k : Wp K cells slots L pc' ls st) : Wp K cells slots L pc ls (w :: u :: st) :=
  wp_step C (fun p e s m args below meth c vm0 T locs F hx hb hml hown hZ hH X => ⟨T, X, rfl, fun t h => XT.acmpYes X.here hx rfl rfl (C.dec hi hb) rfl hu hw hc ho hp h⟩) k
theorem wp_acN (C : Cx K l Z a0 EL nw y bytes maxL ret rm G B) {cd : ACond} {o : Int} {u w : Value} (j pc' : Nat) (hi : B[j]? = some (pc, .if_acmp cd o, 3)) (hu : u.isRef = true) (hw : w.isRef = true) (hc : XT.acmp cd u w = false) (hp : pc + 3 = pc') (k : Wp K cells slots L pc' ls st) : Wp K cells slots L pc ls (w :: u :: st) := by
  subst hp
  exact wp_step C (fun p e s m args below meth c vm0 T locs F hx hb hml hown hZ hH X => ⟨T, X, rfl, fun t h => XT.acmpNo X.here hx rfl (C.dec hi hb) rfl hu hw hc h⟩) k
/-! division -/
theorem wp_irem (C : Cx K l Z a0 EL nw y bytes maxL ret rm G B) {x z : Int32} (j pc' : Nat) (hi : B[j]? = some (pc, .irem, 1)) (hp : pc + 1 = pc') (hz : z ≠ 0) (k : Wp K cells slots L pc' ls (.int (x % z) :: st)) : Wp K cells slots L pc ls (.int z :: .int x :: st) := by
  subst hp
  exact wp_step C (fun p e s m args below meth c vm0 T locs F hx hb hml hown hZ hH X => ⟨T, X, rfl, fun t h => iremM X hx rfl (C.dec hi hb) rfl hz h⟩) k
theorem wp_idiv (C : Cx K l Z a0 EL nw y bytes maxL ret rm G B) {x z : Int32} (j pc' : Nat) (hi : B[j]? = some (pc, .idiv, 1)) (hp : pc + 1 = pc') (hz : z ≠ 0) (k : Wp K cells slots L pc' ls (.int (x / z) :: st)) : Wp K cells slots L pc ls (.int z :: .int x :: st) := by
  subst hp
  exact wp_step C (fun p e s m args below meth c vm0 T locs F hx hb hml hown hZ hH X => ⟨T, X, rfl, fun t h => XS.idiv X.here hx rfl (C.dec hi hb) rfl hz h⟩) k
/-! constants -/
theorem wp_ldcI (C : Cx K l Z a0 EL nw y bytes maxL ret rm G B) {z : Int32} {ix : Nat} (j pc' : Nat) (hi : B[j]? = some (pc, .ldc ix, 2)) (hp : pc + 2 = pc') (w : (Cond.constant y.cls ix z).before a0 Z = true) (k : Wp K cells slots L pc' ls (.int z :: st)) : Wp K cells slots L pc ls st := by
  subst hp
  exact wp_step C (fun p e s m args below meth c vm0 T locs F hx hb hml hown hZ hH X => ⟨T, X, rfl, by
      have w' : (Cond.constant y.cls ix z).before args (s.setVm vm0) = true := mvT (args := args) (s := s.setVm vm0) hZ w
      exact X.ldcInt hx hown w' (g := mkF m pc ls.toArray st) rfl (C.dec hi hb)⟩) k
theorem wp_ldcJ (C : Cx K l Z a0 EL nw y bytes maxL ret rm G B) {z : Int64} {ix : Nat} (j pc' : Nat) (hi : B[j]? = some (pc, .ldc2_w ix, 3)) (hp : pc + 3 = pc') (w : (Cond.constantLong y.cls ix z).before a0 Z = true) (k : Wp K cells slots L pc' ls (.long z :: st)) : Wp K cells slots L pc ls st := by
  subst hp
  exact wp_step C (fun p e s m args below meth c vm0 T locs F hx hb hml hown hZ hH X => ⟨T, X, rfl, by
      have w' : (Cond.constantLong y.cls ix z).before args (s.setVm vm0) = true := mvT (args := args) (s := s.setVm vm0) hZ w
      exact X.ldc2Long hx hown w' (g := mkF m pc ls.toArray st) rfl (C.dec hi hb)⟩) k
/-! fields -/
theorem wp_get (C : Cx K l Z a0 EL nw y bytes maxL ret rm G B) {ix : Nat} {R0 O n d : String} {a : Addr} {w : Bool} {Kc : Kd} {vs : List Value} {v : Value} (j pc' i f : Nat) (hi : B[j]? = some (pc, .getfield ix, 3)) (hp : pc + 3 = pc') (lk : (Cond.fieldLink y.cls ix R0 n d).before a0 Z = true) (via : Via Z R0 O n d)
    (hL : L[i]? = some (a, w, .inl Kc, vs)) (hf : Kc.2[f]? = some (O, n, d)) (hv : vs[f]? = some v) (k : Wp K cells slots L pc' ls (v :: st)) : Wp K cells slots L pc ls (.ref a :: st) := by
  subst hp
  exact wp_step C (fun p e s m args below meth c vm0 T locs F hx hb hml hown hZ hH X => getF (host := "") X hx (s := s.setVm vm0) hZ hown (Or.inl lk) via rfl ((hH.obj (app_at hL)).2 f _ _ hf hv) (g := mkF m pc ls.toArray (.ref a :: st)) rfl rfl (C.dec hi hb)) k
theorem wp_getS (C : Cx K l Z a0 EL nw y bytes maxL ret rm G B) {ix : Nat} {R0 O n d : String} {v : Value} (j pc' : Nat) (hi : B[j]? = some (pc, .getstatic ix, 3)) (hp : pc + 3 = pc') (lk : (Cond.fieldLink y.cls ix R0 n d).before a0 Z = true) (via : Via Z R0 O n d) (S : Sta Z Z.heap O n d v)
    (k : Wp K cells slots L pc' ls (v :: st)) : Wp K cells slots L pc ls st := by
  subst hp
  exact wp_step C (fun p e s m args below meth c vm0 T locs F hx hb hml hown hZ hH X => getS2 (host := "") X hx (s := s.setVm vm0) hZ hown (Or.inl lk) via rfl (S.ext hH.1) (g := mkF m pc ls.toArray st) rfl (C.dec hi hb)) k
theorem wp_put (C : Cx K l Z a0 EL nw y bytes maxL ret rm G B) {ix kk : Nat} {R0 O n d : String} {ty : FieldType} {a : Addr} {Kc : Kd} {vs vs' : List Value} {u v : Value} (j pc' i f : Nat) (hi : B[j]? = some (pc, .putfield ix, 3)) (hp : pc + 3 = pc') (lk : (Cond.fieldLink y.cls ix R0 n d).before a0 Z = true) (via : Via Z R0 O n d)
    (lw : (Cond.lays Kc.1 O n d).before a0 Z = true ∨ ((Cond.laysFinal Kc.1 O n d).before a0 Z = true ∧ y.cls = O ∧ y.name = "<init>")) (wi : (Cond.instantiable Kc.1 kk).before a0 Z = true) (ko : KOk Z a0 Kc) (hty : parseFieldDescriptor d = some ty) (hnr : narrow ty u = v) (hft : fits ty v = true)
    (hL : L[i]? = some (a, true, .inl Kc, vs)) (hf : Kc.2[f]? = some (O, n, d)) {ov : Value} (hov : vs[f]? = some ov) (hs : vs.set f v = vs') {L' : List Item} (hL' : L.set i (a, true, .inl Kc, vs') = L') (k : Wp K cells slots L' pc' ls st) : Wp K cells slots L pc ls (u :: .ref a :: st) := by
  subst hp hs hL'
  refine wp_write C hL (fun p e s m args below meth c vm0 T locs hx hb hown hnm hZ hI X => ?_) k
  have hI0 : Ob Z T.heap a Kc vs ∧ (true = true → Unt T.heap a) := hI
  have hI' := hI0.1
  have hlt := (List.getElem?_eq_some_iff.mp hov).1
  obtain ⟨T', h', X', rfl, W, stp⟩ := putFN X hx (s := s.setVm vm0) hZ hown lk via rfl (hI'.2 f _ _ hf (List.getElem?_eq_getElem hlt)) hI'.1 (lw.imp id fun q => ⟨q.1, q.2.1, by rw [hnm]; exact q.2.2⟩) wi hty hnr hft (g := mkF m pc ls.toArray (u :: .ref a :: st)) rfl rfl (C.dec hi hb)
  exact ⟨T', _, _, X', W, ⟨Ob.set ko hf W hI' hlt, fun _ => unt_wr W (hI0.2 rfl)⟩, stp⟩
/-! making -/
def defs (Kc : Kd) : List Value := Kc.2.map fun f => defaultValue ((parseFieldDescriptor f.2.2).getD .int)
theorem wp_new (C : Cx K l Z a0 EL nw y bytes maxL ret rm G B) {ix n : Nat} {Kc : Kd} {vs : List Value} (j pc' : Nat) (hi : B[j]? = some (pc, .new ix, 3)) (hp : pc + 3 = pc') (lk : (Cond.classLink y.cls ix Kc.1).before a0 Z = true) (wi : (Cond.instantiable Kc.1 n).before a0 Z = true) (wz : (Cond.initialized Kc.1).before a0 Z = true) (ko : KOk Z a0 Kc)
    (hv : defs Kc = vs) {cells' slots' : Nat} (hc : cells + 1 = cells') (hl : slots + n = slots') (hc' : cells' ≤ rm.cells) (hl' : slots' ≤ rm.slots) (k : ∀ a : Addr, Wp K cells' slots' ((a, true, .inl Kc, vs) :: L) pc' ls (.ref a :: st)) : Wp K cells slots L pc ls st := by
  subst hp hv hc hl
  refine wp_make C (st' := fun a => .ref a :: st) (fun p e s m args below meth c vm0 T locs hx hb hown hZ X => ?_) k
  obtain ⟨T', h', X', rfl, E, A, D, Un, stp⟩ := newO X hx (s := s.setVm vm0) hZ hown lk wi wz rfl (g := mkF m pc ls.toArray st) rfl (C.dec hi hb) hc' hl'
  refine ⟨T', X', E, ⟨⟨A, fun i f v hf hv => ?_⟩, fun _ => Un⟩, stp⟩
  obtain ⟨l1, p1⟩ := ko.1.mem f (List.mem_of_getElem? hf)
  obtain ⟨ty, ht⟩ := Option.isSome_iff_exists.mp p1
  have e1 : v = defaultValue ty := by
    simp only [defs, List.getElem?_map, hf, Option.map_some, ht, Option.getD_some, Option.some.injEq] at hv
    exact hv.symm
  rw [e1]
  exact D l1 ht
theorem toNat_of {z : Int32} {n : Nat} (h : z.toInt = n) : ¬ z < 0 ∧ z.toNatClampNeg = n := by
  refine ⟨fun q => ?_, ?_⟩
  · rw [Int32.lt_iff_toInt_lt, Int32.toInt_zero] at q; omega
  · have : z.toNatClampNeg = z.toInt.toNat := rfl
    omega
theorem fits_default (ty : FieldType) : fits ty (defaultValue ty) = true := by cases ty <;> rfl
theorem wp_newA (C : Cx K l Z a0 EL nw y bytes maxL ret rm G B) {aty : ArrayType} {z : Int32} {n cap : Nat} (j pc' : Nat) (hi : B[j]? = some (pc, .newarray aty, 2)) (hp : pc + 2 = pc') (wa : (Cond.arrayClass (newarray.typeOf aty)).before a0 Z = true) (hz : z.toInt = n) (hcap : n ≤ cap) (hbig : cap * 8 ≤ 536870912)
    {cells' slots' : Nat} (hc : cells + 1 = cells') (hl : slots + cap = slots') (hc' : cells' ≤ rm.cells) (hl' : slots' ≤ rm.slots) {vs : List Value} (hvs : List.replicate n (defaultValue (newarray.typeOf aty)) = vs) (k : ∀ a : Addr, Wp K cells' slots' ((a, true, .inr (newarray.typeOf aty), vs) :: L) pc' ls (.ref a :: st)) : Wp K cells slots L pc ls (.int z :: st) := by
  subst hp hc hl hvs
  have hn := toNat_of hz
  refine wp_make C (st' := fun a => .ref a :: st) (fun p e s m args below meth c vm0 T locs hx hb hown hZ X => ?_) k
  obtain ⟨T', h', cA, X', rfl, E, A, stp⟩ := newP X hx (s := s.setVm vm0) hZ wa rfl (g := mkF m pc ls.toArray (.int z :: st)) rfl (C.dec hi hb) rfl hn.1 (cap := cap) (by rw [hn.2]; exact hcap) hbig hc' hl'
  refine ⟨T', X', E, ⟨_, A, ?_, by rw [List.length_replicate]; omega, fun v hv => ?_, fun _ C q => ?_⟩, stp⟩
  · show Array.replicate z.toNatClampNeg _ = _
    rw [hn.2]; simp
  · rw [(List.mem_replicate.mp hv).2]; exact fits_default _
  · cases aty <;> cases q
theorem wp_newR (C : Cx K l Z a0 EL nw y bytes maxL ret rm G B) {ix : Nat} {Cn : String} {z : Int32} {n cap : Nat} (j pc' : Nat) (hi : B[j]? = some (pc, .anewarray ix, 3)) (hp : pc + 3 = pc') (lk : (Cond.classLink y.cls ix Cn).before a0 Z = true) (wa : (Cond.arrayOver (.object Cn)).before a0 Z = true) (hz : z.toInt = n) (hcap : n ≤ cap) (hbig : cap * 8 ≤ 536870912)
    {cells' slots' : Nat} (hc : cells + 1 = cells') (hl : slots + cap = slots') (hc' : cells' ≤ rm.cells) (hl' : slots' ≤ rm.slots) {vs : List Value} (hvs : List.replicate n Value.null = vs) (k : ∀ a : Addr, Wp K cells' slots' ((a, true, .inr (.object Cn), vs) :: L) pc' ls (.ref a :: st)) : Wp K cells slots L pc ls (.int z :: st) := by
  subst hp hc hl hvs
  have hn := toNat_of hz
  refine wp_make C (st' := fun a => .ref a :: st) (fun p e s m args below meth c vm0 T locs hx hb hown hZ X => ?_) k
  obtain ⟨T', h', cA, X', rfl, E, A, O, stp⟩ := newR X hx (s := s.setVm vm0) hZ hown lk wa rfl (g := mkF m pc ls.toArray (.int z :: st)) rfl (C.dec hi hb) rfl hn.1 (cap := cap) (by rw [hn.2]; exact hcap) hbig hc' hl'
  refine ⟨T', X', E, ⟨_, A, ?_, by rw [List.length_replicate]; omega, fun v hv => ?_, fun _ C q => ?_⟩, stp⟩
  · show Array.replicate z.toNatClampNeg _ = _
    rw [hn.2]; simp [defaultValue]
  · rw [(List.mem_replicate.mp hv).2]; rfl
  · cases q; exact O
/-! arrays -/
theorem Ay.inb {h : Heap} {a : Addr} {w : Bool} {ty : FieldType} {vs : List Value} {c : Cell} (e : c.slots = vs.toArray) {z : Int32} {n : Nat} (hz : z.toInt = n) {v : Value} (hv : vs[n]? = some v) : ¬ (z < 0 ∨ c.slots.size ≤ z.toNatClampNeg) ∧ c.slots[z.toNatClampNeg]? = some v := by
  have hn := toNat_of hz
  have hl := (List.getElem?_eq_some_iff.mp hv).1
  rw [hn.2, e]
  refine ⟨fun q => q.elim hn.1 (fun q => ?_), by simpa using hv⟩
  simp at q; omega
theorem wp_len (C : Cx K l Z a0 EL nw y bytes maxL ret rm G B) {a : Addr} {w : Bool} {ty : FieldType} {vs : List Value} {z : Int32} (j pc' i : Nat) (hi : B[j]? = some (pc, .arraylength, 1)) (hp : pc + 1 = pc') (hL : L[i]? = some (a, w, .inr ty, vs)) (hz : vs.length.toInt32 = z) (k : Wp K cells slots L pc' ls (.int z :: st)) : Wp K cells slots L pc ls (.ref a :: st) := by
  subst hp hz
  refine wp_step C (fun p e s m args below meth c vm0 T locs F hx hb hml hown hZ hH X => ⟨T, X, rfl, fun t h => ?_⟩) k
  obtain ⟨cl, A, e1, -⟩ := hH.arr (app_at hL)
  refine X.arraylength hx A.1 (State.isArrayOf_alike (show Z.vm.Alike (s.setVm vm0).vm from hZ.alike) A.2.1) (g := mkF m pc ls.toArray (.ref a :: st)) rfl rfl (C.dec hi hb) _ ?_
  have : cl.slots.size = vs.length := by rw [e1]; simp
  rw [this]; exact h
theorem wp_aload (C : Cx K l Z a0 EL nw y bytes maxL ret rm G B) {op : Instr} {a : Addr} {w : Bool} {ty : FieldType} {vs : List Value} {z : Int32} {n : Nat} {v : Value} (j pc' i : Nat) (hi : B[j]? = some (pc, op, 1)) (hp : pc + 1 = pc')
    (ho : (op = .iaload ∧ ty = .int) ∨ (op = .laload ∧ ty = .long) ∨ (op = .caload ∧ ty = .char) ∨ (op = .baload ∧ ty = .byte) ∨ (op = .aaload ∧ ty.isReference = true)) (hL : L[i]? = some (a, w, .inr ty, vs)) (hz : z.toInt = n) (hv : vs[n]? = some v) (k : Wp K cells slots L pc' ls (v :: st)) : Wp K cells slots L pc ls (.int z :: .ref a :: st) := by
  subst hp
  refine wp_step C (fun p e s m args below meth c vm0 T locs F hx hb hml hown hZ hH X => ⟨T, X, rfl, fun t h => ?_⟩) k
  obtain ⟨cl, A, e1, -⟩ := hH.arr (app_at hL)
  obtain ⟨q1, q2⟩ := Ay.inb (h := T.heap) (a := a) (w := w) (ty := ty) e1 hz hv
  have hA := State.isArrayOf_alike (show Z.vm.Alike (s.setVm vm0).vm from hZ.alike) A.2.1
  rcases ho with ⟨rfl, rfl⟩ | ⟨rfl, rfl⟩ | ⟨rfl, rfl⟩ | ⟨rfl, rfl⟩ | ⟨rfl, hr⟩
  · exact X.iaload hx A.1 hA A.2.2 q1 q2 (g := mkF m pc ls.toArray (.int z :: .ref a :: st)) rfl rfl (C.dec hi hb) t h
  · exact X.laload hx A.1 hA A.2.2 q1 q2 (g := mkF m pc ls.toArray (.int z :: .ref a :: st)) rfl rfl (C.dec hi hb) t h
  · exact X.caload hx A.1 hA A.2.2 q1 q2 (g := mkF m pc ls.toArray (.int z :: .ref a :: st)) rfl rfl (C.dec hi hb) t h
  · exact X.baloadBytes hx A.1 hA A.2.2 q1 q2 (g := mkF m pc ls.toArray (.int z :: .ref a :: st)) rfl rfl (C.dec hi hb) t h
  · exact X.aaload hx A.1 hA hr A.2.2 q1 q2 (g := mkF m pc ls.toArray (.int z :: .ref a :: st)) rfl rfl (C.dec hi hb) t h
end Rules
end Jvm.Wk
namespace Jvm.Wk
open Sem ClassFile Op Lib Jvm.Stand Jvm.Free Jvm.LawKit Jvm.RoadKit
section Rules
variable {K : Cxt} {l : Launch} {Z : State} {a0 : Array Value} {EL : List (String × Nat)} {nw : Bool} {y : MethodName} {bytes : ByteArray} {maxL : Nat} {ret : Option FieldType} {rm : Room} {G : Option Value → List Item → Prop} {B : Prog} {cells slots pc j : Nat} {L : List Item} {ls : List Slot} {st : List Value}
/-! an array's stores -/
theorem wp_sto (C : Cx K l Z a0 EL nw y bytes maxL ret rm G B) {a : Addr} {ty : FieldType} {vs vs' : List Value} {z : Int32} {n : Nat} {u v : Value} {pc' i : Nat} (hL : L[i]? = some (a, true, .inr ty, vs)) (hz : z.toInt = n) (hn : n < vs.length) (hft : fits ty v = true)
    (hst : ∀ (p : Program) (e : Env) (s : State) (m : MethodId) (args : Array Value) (below : List Frame) (meth : Method) (c : Code) (vm0 : Vm) (T : State) (locs : List Loc) (cl : Cell), p.tables.exec = Jvm.exec → c.code = bytes → Z.Warmed39 vm0 → Arr Z T.heap a cl ty → ¬ (z < 0 ∨ cl.slots.size ≤ z.toNatClampNeg) → Stand p l e rm (s.setVm vm0) m args below meth c T locs cells slots →
      ∃ T' h', Stand p l e rm (s.setVm vm0) m args below meth c T' (locs ++ [⟨a, z.toNatClampNeg⟩]) cells slots ∧ T'.heap = h' ∧ Wr T.heap h' a z.toNatClampNeg v ∧ ∀ target, Steps p.tables e below (T'.setTop (mkF m pc' ls.toArray st)) target → Steps p.tables e below (T.setTop (mkF m pc ls.toArray (u :: .int z :: .ref a :: st))) target)
    (hs : vs.set n v = vs') {L' : List Item} (hL' : L.set i (a, true, .inr ty, vs') = L') (k : Wp K cells slots L' pc' ls st) : Wp K cells slots L pc ls (u :: .int z :: .ref a :: st) := by
  subst hs hL'
  refine wp_write C hL (fun p e s m args below meth c vm0 T locs hx hb hown hnm hZ hI X => ?_) k
  have hI' : Ay Z T.heap a true ty vs := hI
  obtain ⟨cl, A, e1, -⟩ := id hI'
  obtain ⟨q1, -⟩ := Ay.inb (h := T.heap) (a := a) (w := true) (ty := ty) e1 hz (List.getElem?_eq_getElem hn)
  obtain ⟨T', h', X', rfl, W, stp⟩ := hst p e s m args below meth c vm0 T locs cl hx hb hZ A q1 X
  refine ⟨T', _, _, X', W, ?_, stp⟩
  rw [(toNat_of hz).2] at W
  exact Ay.set hI' W hft
theorem wp_stoI (C : Cx K l Z a0 EL nw y bytes maxL ret rm G B) {a : Addr} {vs vs' : List Value} {z x : Int32} {n : Nat} (j pc' i : Nat) (hi : B[j]? = some (pc, .iastore, 1)) (hp : pc + 1 = pc') (hL : L[i]? = some (a, true, .inr .int, vs)) (hz : z.toInt = n) (hn : n < vs.length)
    (hs : vs.set n (.int x) = vs') {L' : List Item} (hL' : L.set i (a, true, .inr .int, vs') = L') (k : Wp K cells slots L' pc' ls st) : Wp K cells slots L pc ls (.int x :: .int z :: .ref a :: st) := by
  subst hp
  exact wp_sto C hL hz hn rfl (fun p e s m args below meth c vm0 T locs cl hx hb hZ A q X => stI X hx (s := s.setVm vm0) hZ rfl A q (g := mkF m pc ls.toArray (.int x :: .int z :: .ref a :: st)) rfl rfl (C.dec hi hb)) hs hL' k
theorem wp_stoJ (C : Cx K l Z a0 EL nw y bytes maxL ret rm G B) {a : Addr} {vs vs' : List Value} {z : Int32} {x : Int64} {n : Nat} (j pc' i : Nat) (hi : B[j]? = some (pc, .lastore, 1)) (hp : pc + 1 = pc') (hL : L[i]? = some (a, true, .inr .long, vs)) (hz : z.toInt = n) (hn : n < vs.length)
    (hs : vs.set n (.long x) = vs') {L' : List Item} (hL' : L.set i (a, true, .inr .long, vs') = L') (k : Wp K cells slots L' pc' ls st) : Wp K cells slots L pc ls (.long x :: .int z :: .ref a :: st) := by
  subst hp
  exact wp_sto C hL hz hn rfl (fun p e s m args below meth c vm0 T locs cl hx hb hZ A q X => stJ X hx (s := s.setVm vm0) hZ rfl A q (g := mkF m pc ls.toArray (.long x :: .int z :: .ref a :: st)) rfl rfl (C.dec hi hb)) hs hL' k
theorem wp_stoC (C : Cx K l Z a0 EL nw y bytes maxL ret rm G B) {a : Addr} {vs vs' : List Value} {z x : Int32} {n : Nat} (j pc' i : Nat) (hi : B[j]? = some (pc, .castore, 1)) (hp : pc + 1 = pc') (hL : L[i]? = some (a, true, .inr .char, vs)) (hz : z.toInt = n) (hn : n < vs.length)
    (hs : vs.set n (.int (nar .char x)) = vs') {L' : List Item} (hL' : L.set i (a, true, .inr .char, vs') = L') (k : Wp K cells slots L' pc' ls st) : Wp K cells slots L pc ls (.int x :: .int z :: .ref a :: st) := by
  subst hp
  exact wp_sto C hL hz hn (fits_nar_char _) (fun p e s m args below meth c vm0 T locs cl hx hb hZ A q X => stC X hx (s := s.setVm vm0) hZ rfl A q (g := mkF m pc ls.toArray (.int x :: .int z :: .ref a :: st)) rfl rfl (C.dec hi hb)) hs hL' k
theorem wp_stoB (C : Cx K l Z a0 EL nw y bytes maxL ret rm G B) {a : Addr} {vs vs' : List Value} {z x : Int32} {n : Nat} (j pc' i : Nat) (hi : B[j]? = some (pc, .bastore, 1)) (hp : pc + 1 = pc') (hL : L[i]? = some (a, true, .inr .byte, vs)) (hz : z.toInt = n) (hn : n < vs.length)
    (hs : vs.set n (.int x.toInt8.toInt32) = vs') {L' : List Item} (hL' : L.set i (a, true, .inr .byte, vs') = L') (k : Wp K cells slots L' pc' ls st) : Wp K cells slots L pc ls (.int x :: .int z :: .ref a :: st) := by
  subst hp
  exact wp_sto C (pc' := pc + 1) (v := .int (nar .byte x)) hL hz hn (fits_nar_byte x) (fun p e s m args below meth c vm0 T locs cl hx hb hZ A q X => stB X hx (s := s.setVm vm0) hZ rfl A q (g := mkF m pc ls.toArray (.int x :: .int z :: .ref a :: st)) rfl rfl (C.dec hi hb)) hs hL' k
theorem wp_stoZ (C : Cx K l Z a0 EL nw y bytes maxL ret rm G B) {a : Addr} {vs vs' : List Value} {z x : Int32} {n : Nat} (j pc' i : Nat) (hi : B[j]? = some (pc, .bastore, 1)) (hp : pc + 1 = pc') (hL : L[i]? = some (a, true, .inr .boolean, vs)) (hz : z.toInt = n) (hn : n < vs.length)
    (hs : vs.set n (.int (x &&& 1)) = vs') {L' : List Item} (hL' : L.set i (a, true, .inr .boolean, vs') = L') (k : Wp K cells slots L' pc' ls st) : Wp K cells slots L pc ls (.int x :: .int z :: .ref a :: st) := by
  subst hp
  exact wp_sto C hL hz hn (fits_nar_bool _) (fun p e s m args below meth c vm0 T locs cl hx hb hZ A q X => stZ X hx (s := s.setVm vm0) hZ rfl A q (g := mkF m pc ls.toArray (.int x :: .int z :: .ref a :: st)) rfl rfl (C.dec hi hb)) hs hL' k
theorem wp_stoN (C : Cx K l Z a0 EL nw y bytes maxL ret rm G B) {a : Addr} {ty : FieldType} {vs vs' : List Value} {z : Int32} {n : Nat} (j pc' i : Nat) (hi : B[j]? = some (pc, .aastore, 1)) (hp : pc + 1 = pc') (hty : ty.isReference = true) (hL : L[i]? = some (a, true, .inr ty, vs)) (hz : z.toInt = n) (hn : n < vs.length)
    (hs : vs.set n .null = vs') {L' : List Item} (hL' : L.set i (a, true, .inr ty, vs') = L') (k : Wp K cells slots L' pc' ls st) : Wp K cells slots L pc ls (.null :: .int z :: .ref a :: st) := by
  subst hp
  have hft : fits ty .null = true := by cases ty <;> first | rfl | (cases hty)
  exact wp_sto C hL hz hn hft (fun p e s m args below meth c vm0 T locs cl hx hb hZ A q X => stR X hx (s := s.setVm vm0) hZ rfl A q hty (Or.inl rfl) (g := mkF m pc ls.toArray (.null :: .int z :: .ref a :: st)) rfl rfl (C.dec hi hb)) hs hL' k
/-! ends -/
theorem wp_leave (C : Cx K l Z a0 EL nw y bytes maxL ret rm G B) {v : Option Value} (hv : ret = none → v = none) (h1 : cells ≤ rm.cells) (h2 : slots ≤ rm.slots) (hG : G v L)
    (hs : ∀ (p : Program) (e : Env) (s : State) (m : MethodId) (args : Array Value) (below : List Frame) (meth : Method) (c : Code) (T : State) (locs : List Loc) (fs : List Frame), p.tables.exec = Jvm.exec → c.code = bytes → meth.sig.returnType = ret → Stand p l e rm s m args below meth c T locs cells slots →
      (∀ (f : JFrame) (acts : List Action), f.method = m → f.locked = none → f.entered = [] → (doReturn e (T.setTop f) acts v).1 = T.setFrames fs) → Steps p.tables e below (T.setTop (mkF m pc ls.toArray st)) (T.setFrames fs)) : Wp K cells slots L pc ls st := by
  obtain ⟨p, e, s, m, args, below, meth, c, F, rfl, hx, hb, hml, hret, hlk, hown, hnm, hEL, hB⟩ := C
  intro vm0 k0 T locs X hS hk hn hZ hF hg hH
  obtain ⟨fs, hr, hrun, hend, hw⟩ := X.leaveW hS hk (v := v) (fun q => hv (hret.symm.trans q)) hlk
  refine ⟨T.setFrames fs, _, hs p e _ m args below meth c T locs fs hx hb hret X hr, hrun, hend, v, locs, L, rfl, hG, (show Hp Z EL T.vm T.heap (L ++ F) from hH.at X hZ hEL), hF, fun q => State.WarmedH.trans (t := s.setVm vm0) (hn q) X.warmed, hg, hw.1, hw.2.1, hw.2.2.1, hw.2.2.2.mono h1 h2⟩
theorem wp_ret0 (C : Cx K l Z a0 EL nw y bytes maxL none rm G B) (j : Nat) (hi : B[j]? = some (pc, .return_, 1)) (h1 : cells ≤ rm.cells) (h2 : slots ≤ rm.slots) (hG : G none L) : Wp K cells slots L pc ls [] :=
  wp_leave C (fun _ => rfl) h1 h2 hG (fun p e s m args below meth c T locs fs hx hb hret X hr => X.returnOut hx hret (C.dec hi hb) hr)
theorem wp_retI (C : Cx K l Z a0 EL nw y bytes maxL (some .int) rm G B) {z : Int32} (j : Nat) (hi : B[j]? = some (pc, .ireturn, 1)) (h1 : cells ≤ rm.cells) (h2 : slots ≤ rm.slots) (hG : G (some (.int z)) L) : Wp K cells slots L pc ls (.int z :: st) :=
  wp_leave C (fun q => nomatch q) h1 h2 hG (fun p e s m args below meth c T locs fs hx hb hret X hr => retOut X hx hret rfl (Or.inl ⟨rfl, Or.inl rfl, z, rfl⟩) (C.dec hi hb) hr)
theorem wp_retJ (C : Cx K l Z a0 EL nw y bytes maxL (some .long) rm G B) {z : Int64} (j : Nat) (hi : B[j]? = some (pc, .lreturn, 1)) (h1 : cells ≤ rm.cells) (h2 : slots ≤ rm.slots) (hG : G (some (.long z)) L) : Wp K cells slots L pc ls (.long z :: st) :=
  wp_leave C (fun q => nomatch q) h1 h2 hG (fun p e s m args below meth c T locs fs hx hb hret X hr => retOut X hx hret rfl (Or.inr (Or.inl ⟨rfl, rfl, z, rfl⟩)) (C.dec hi hb) hr)
theorem wp_retN {t : FieldType} (C : Cx K l Z a0 EL nw y bytes maxL (some t) rm G B) {z z' : Int32} (j : Nat) (hi : B[j]? = some (pc, .ireturn, 1)) (ht : t = .boolean ∨ t = .byte ∨ t = .char ∨ t = .short) (hz : nar t z = z') (h1 : cells ≤ rm.cells) (h2 : slots ≤ rm.slots) (hG : G (some (.int z')) L) : Wp K cells slots L pc ls (.int z :: st) := by
  subst hz
  exact wp_leave C (fun q => nomatch q) h1 h2 hG (fun p e s m args below meth c T locs fs hx hb hret X hr => retN X hx hret ht (C.dec hi hb) hr)
theorem wp_retA {t : FieldType} (C : Cx K l Z a0 EL nw y bytes maxL (some t) rm G B) {v : Value} (j : Nat) (hi : B[j]? = some (pc, .areturn, 1)) (ht : t.isReference = true) (hv : v.isRef = true) (h1 : cells ≤ rm.cells) (h2 : slots ≤ rm.slots) (hG : G (some v) L) : Wp K cells slots L pc ls (v :: st) :=
  wp_leave C (fun q => nomatch q) h1 h2 hG (fun p e s m args below meth c T locs fs hx hb hret X hr => retOut X hx hret (by cases t <;> first | (cases ht; done) | (cases v <;> first | (cases hv; done) | rfl)) (Or.inr (Or.inr (Or.inr (Or.inr ⟨rfl, ht, hv⟩)))) (C.dec hi hb) hr)
/-! calls -/
theorem ct_back {y' : MethodName} {by' : ByteArray} {ml : Nat} {rt : Option FieldType} {rm' : Room} {as : List Value} {L0 F : List Item} {G' : Option Value → List Item → Prop} {R : Room} {p : Program} {e : Env} {below : List Frame} {s : State} {args : Array Value} {vm0 : Vm} {len W : Nat} {h : Heap}
    (hM : Ct l Z EL nw y' by' ml rt [] rm' as L0 G') (hZ : Z.Warmed39 vm0) (wc : (Cond.code y' by' ml rt).before a0 Z = true) (wz : (Cond.initialized y'.cls).before a0 Z = true) (hf : rm'.frames + 1 ≤ R.frames) (hl : W + (ml + 11) + rm'.locals ≤ R.locals) (hEL : EW Z a0 EL) (H : Hp Z EL vm0 h (L0 ++ F)) :
    BackS l R p e below (s.setVm vm0) args y' len W (fun A a => a = as.toArray ∧ A.U.heap = h ∧ A.cells + rm'.cells ≤ R.cells ∧ A.slots + rm'.slots ≤ R.slots)
      (fun A _ v C => ∃ (Lc : List Loc) (L' : List Item), G' v L' ∧ Hp Z EL C.U.vm C.U.heap (L' ++ F) ∧ Fr Z.heap.size Lc ∧ (nw = true → A.U.WarmedH C.U.vm) ∧ C.locs = A.locs ++ Lc ∧ C.cells = A.cells + rm'.cells ∧ C.slots = A.slots + rm'.slots) :=
  BackS.of_freeW (bytes := by') (maxL := ml) (ret := rt) (E := fun _ first o t L k n => k = rm'.cells ∧ n = rm'.slots ∧ ∃ v L', o = .returned v ∧ G' v L' ∧ Hp Z EL t.vm t.heap (L' ++ F) ∧ Fr Z.heap.size L ∧ (nw = true → first.WarmedH t.vm)) (hM F) hf hl
    (fun m meth c A a Y hp => have hU : Z.Warmed39 A.U.vm := wtrans (s := s.setVm vm0) hZ Y.warmed
      ⟨by show (Cond.and _ .tt).before a A.U = true; rw [Cond.before_and, mv hU wc]; rfl, mv hU wc, mv hU wz, hp.2.2.1, hp.2.2.2⟩)
    (fun m meth c A a g mk Y hp => ⟨hp.1, wtrans (s := s.setVm vm0) hZ Y.warmed, by
      show Hp Z EL A.U.vm A.U.heap (L0 ++ F)
      rw [hp.2.1]; exact H.at Y hZ hEL⟩) (fun _ _ _ _ _ _ _ _ _ => trivial)
    (fun _ _ _ _ ⟨v, Lc, L', h1, h2, h3, h4, h5, h6, h7⟩ => ⟨Lc, _, _, h7, rfl, rfl, v, L', h1, h2, h3, h4, h5⟩)
    (fun m meth c A a g mk v t Lc k n Y hp _ _ ⟨e1, e2, v', L', e3, e4, e5, e6, e7⟩ => by
      cases e3; subst e1 e2
      exact ⟨Lc, L', e4, e5, e6, e7, rfl, rfl, rfl⟩)
/-- what a call's law hands out, joined with the rest of the walk -/
theorem wp_call (C : Cx K l Z a0 EL nw y bytes maxL ret rm G B) {y' : MethodName} {by' : ByteArray} {ml : Nat} {rt : Option FieldType} {rm' : Room} {as : List Value} {L0 L1 : List Item} {G' : Option Value → List Item → Prop} {len W : Nat} {rest : List Value}
    (hM : Ct l Z EL nw y' by' ml rt [] rm' as L0 G') (wc : (Cond.code y' by' ml rt).before a0 Z = true) (wz : (Cond.initialized y'.cls).before a0 Z = true) (hf : rm'.frames + 1 ≤ rm.frames) (hl : W + (ml + 11) + rm'.locals ≤ rm.locals) (hL : L = L0 ++ L1)
    (hs : ∀ (p : Program) (e : Env) (s : State) (m : MethodId) (args : Array Value) (below : List Frame) (meth : Method) (c : Code) (vm0 : Vm) (T : State) (locs : List Loc) (Pre : Pt → Array Value → Prop) (Post : Pt → Array Value → Option Value → Pt → Prop), p.tables.exec = Jvm.exec → c.code = bytes → c.maxLocals = maxL → (s.setVm vm0).vm.findClass y.cls = some m.cls → Z.Warmed39 vm0 → (∀ x ∈ L, It Z T.heap x) →
      Stand p l e rm (s.setVm vm0) m args below meth c T locs cells slots → BackS l rm p e below (s.setVm vm0) args y' len W Pre Post → (∀ vm₁, (s.setVm vm0).WarmedH vm₁ → Pre ⟨T.setVm vm₁, locs, cells, slots⟩ as.toArray) →
      ∃ (v : Option Value) (vm₁ : Vm) (D : Pt), (s.setVm vm0).WarmedH vm₁ ∧ Stand p l e rm ((s.setVm vm0).setVm D.U.vm) m args below meth c D.U D.locs D.cells D.slots ∧ (s.setVm vm0).Since D.U.vm D.U.heap.size ∧ T.heap.size ≤ D.U.heap.size ∧ Post ⟨T.setVm vm₁, locs, cells, slots⟩ as.toArray v D ∧
        Steps p.tables e below (T.setTop (mkF m pc ls.toArray st)) (D.U.setTop (mkF m (pc + len) ls.toArray (v.toList ++ rest))))
    {cells' slots' pc' : Nat} (hpc : pc + len = pc') (hc : cells + rm'.cells = cells') (hsl : slots + rm'.slots = slots') (hc' : cells' ≤ rm.cells) (hs' : slots' ≤ rm.slots) (k : ∀ v L', G' v L' → Wp K cells' slots' (L' ++ L1) pc' ls (v.toList ++ rest)) : Wp K cells slots L pc ls st := by
  subst hpc hc hsl hL
  obtain ⟨p, e, s, m, args, below, meth, c, F, rfl, hx, hb, hml, hret, hlk, hown, hnm, hEL, hB⟩ := C
  intro vm0 k0 T locs X hS hk hn hZ hF hg hH
  obtain ⟨v, vm₁, ⟨U, Lo, kc, ks⟩, hW1, X', hS', hgr, ⟨Lc, L', hG', hH', hFr, hn', e1, e2, e3⟩, hst⟩ := hs p e s m args below meth c vm0 T locs _ _ hx hb hml (by rw [show (s.setVm vm0).vm = vm0 from rfl, hS.1.alike.findClass]; exact hown) hZ (fun x hx => hH.2.2.1 x (List.mem_append_left F hx)) X
    (ct_back (len := len) (F := L1 ++ F) hM hZ wc wz hf hl hEL (by rw [← List.append_assoc]; exact hH)) (fun vm₁ _ => ⟨rfl, rfl, hc', hs'⟩)
  dsimp only [Pt.U, Pt.locs, Pt.cells, Pt.slots] at X' hS' hgr hH' hn' e1 e2 e3 hst
  subst e1 e2 e3
  obtain ⟨t, o, h1, h2⟩ := k v L' hG' U.vm U.heap.size U (locs ++ Lc) X' (hS.trans hS' (Nat.le_trans hk hgr)) (Nat.le_refl _) (fun q => State.WarmedH.trans (t := s.setVm vm0) (hn q) (State.WarmedH.trans (t := T.setVm vm₁) hW1 (hn' q))) (State.Warmed39.trans (t := s.setVm vm0) hZ hS'.1) (Fr.app hF hFr) (Nat.le_trans hg hgr) (by rw [List.append_assoc]; exact hH')
  exact ⟨t, o, hst.trans h1, h2⟩
theorem sz {ls : List Slot} {c : Code} (hml : c.maxLocals = maxL) (h : ls.length = maxL) : ls.toArray.size = c.maxLocals := by rw [hml, ← h]; simp
theorem wp_init (C : Cx K l Z a0 EL nw y bytes maxL ret rm G B) {y' : MethodName} {by' : ByteArray} {ml ix : Nat} {rm' : Room} {a : Addr} {al rest : List Value} {ps : List FieldType} {L0 L1 : List Item} {G' : Option Value → List Item → Prop} {W : Nat} (j pc' : Nat)
    (hM : Ct l Z EL nw y' by' ml none [] rm' (.ref a :: al) L0 G') (hi : B[j]? = some (pc, .invokespecial ix, 3)) (hpc : pc + 3 = pc') (lk : (Cond.methodLink y.cls ix y').before a0 Z = true) (wi : (Cond.instanceMethod y').before a0 Z = true) (wc : (Cond.code y' by' ml none).before a0 Z = true) (wz : (Cond.initialized y'.cls).before a0 Z = true)
    (hn1 : y'.name = "<init>") (hy : y'.cls ≠ "java/lang/invoke/MethodHandle" ∧ y'.cls ≠ "java/lang/invoke/VarHandle") (hd : parseMethodDescriptor y'.desc = some ⟨ps, none⟩) (hlen : al.length = ps.length) (hst : st = al.reverse ++ .ref a :: rest) (hW : (rest.map fun v => v.category).sum = W) (hls : ls.length = maxL)
    (hf : rm'.frames + 1 ≤ rm.frames) (hl : W + (ml + 11) + rm'.locals ≤ rm.locals) (hL : L = L0 ++ L1) {cells' slots' : Nat} (hc : cells + rm'.cells = cells') (hsl : slots + rm'.slots = slots') (hc' : cells' ≤ rm.cells) (hs' : slots' ≤ rm.slots) (k : ∀ v L', G' v L' → Wp K cells' slots' (L' ++ L1) pc' ls (v.toList ++ rest)) : Wp K cells slots L pc ls st := by
  refine wp_call C (len := 3) (W := W) hM wc wz hf hl hL (fun p e s m args below meth c vm0 T locs Pre Post hx hb hml hown hZ hI X hK hp => ?_) hpc hc hsl hc' hs' k
  exact X.specialBackS hx hn1 hown (mvT (s := s.setVm vm0) hZ lk) (mvT (s := s.setVm vm0) hZ wi) (mvT (s := s.setVm vm0) hZ wc) hy hK (g := mkF m pc ls.toArray st) rfl (sz hml hls) (Steps.refl _) (a := a) (argsL := al) (rest := rest) (lenOf hd hlen) hst (by show 2 * 0 + _ ≤ _; omega) (C.dec hi hb) hp
theorem wp_static (C : Cx K l Z a0 EL nw y bytes maxL ret rm G B) {y' : MethodName} {by' : ByteArray} {ml ix : Nat} {rt : Option FieldType} {rm' : Room} {al rest : List Value} {ps : List FieldType} {L0 L1 : List Item} {G' : Option Value → List Item → Prop} {W : Nat} (j pc' : Nat)
    (hM : Ct l Z EL nw y' by' ml rt [] rm' al L0 G') (hi : B[j]? = some (pc, .invokestatic ix, 3)) (hpc : pc + 3 = pc') (lk : (Cond.methodLink y.cls ix y').before a0 Z = true) (ws : (Cond.static y').before a0 Z = true) (wc : (Cond.code y' by' ml rt).before a0 Z = true) (wz : (Cond.initialized y'.cls).before a0 Z = true)
    (hy : y'.cls ≠ "java/lang/invoke/MethodHandle" ∧ y'.cls ≠ "java/lang/invoke/VarHandle") (hd : parseMethodDescriptor y'.desc = some ⟨ps, rt⟩) (hlen : al.length = ps.length) (hst : st = al.reverse ++ rest) (hW : (rest.map fun v => v.category).sum = W) (hls : ls.length = maxL)
    (hf : rm'.frames + 1 ≤ rm.frames) (hl : W + (ml + 11) + rm'.locals ≤ rm.locals) (hL : L = L0 ++ L1) {cells' slots' : Nat} (hc : cells + rm'.cells = cells') (hsl : slots + rm'.slots = slots') (hc' : cells' ≤ rm.cells) (hs' : slots' ≤ rm.slots) (k : ∀ v L', G' v L' → Wp K cells' slots' (L' ++ L1) pc' ls (v.toList ++ rest)) : Wp K cells slots L pc ls st := by
  refine wp_call C (len := 3) (W := W) hM wc wz hf hl hL (fun p e s m args below meth c vm0 T locs Pre Post hx hb hml hown hZ hI X hK hp => ?_) hpc hc hsl hc' hs' k
  exact callSS X hx hown (mvT (s := s.setVm vm0) hZ lk) (mvT (s := s.setVm vm0) hZ ws) (mvT (s := s.setVm vm0) hZ wz) (mvT (s := s.setVm vm0) hZ wc) hy hK (g := mkF m pc ls.toArray st) rfl (sz hml hls) (argsL := al) (rest := rest) (lenOf hd hlen) hst (by show 2 * 0 + _ ≤ _; omega) (C.dec hi hb) hp
theorem It.exa {h : Heap} {a : Addr} {w : Bool} {Kc : Kd} {vs : List Value} (I : It Z h (a, w, .inl Kc, vs)) : Exa Z h a Kc.1 := I.1.1
theorem wp_virtual (C : Cx K l Z a0 EL nw y bytes maxL ret rm G B) {y' z' : MethodName} {by' : ByteArray} {ml ix : Nat} {rt : Option FieldType} {rm' : Room} {a : Addr} {w : Bool} {Kc : Kd} {vs : List Value} {al rest : List Value} {ps : List FieldType} {L0 L1 : List Item} {G' : Option Value → List Item → Prop} {W : Nat} (j pc' i : Nat)
    (hM : Ct l Z EL nw z' by' ml rt [] rm' (.ref a :: al) L0 G') (hi : B[j]? = some (pc, .invokevirtual ix, 3)) (hpc : pc + 3 = pc') (hR : L[i]? = some (a, w, .inl Kc, vs)) (lk : (Cond.methodLink y.cls ix y').before a0 Z = true) (wd : (Cond.declares y').before a0 Z = true) (wnf : ∀ s : State, Z.Warmed39 s.vm → NotFace s y') (wsel : (Cond.selects Kc.1 y' z').before a0 Z = true) (wi : (Cond.instanceMethod z').before a0 Z = true) (wc : (Cond.code z' by' ml rt).before a0 Z = true) (wz : (Cond.initialized z'.cls).before a0 Z = true)
    (hy : y'.cls ≠ "java/lang/invoke/MethodHandle" ∧ y'.cls ≠ "java/lang/invoke/VarHandle") (hd : parseMethodDescriptor y'.desc = some ⟨ps, rt⟩) (hlen : al.length = ps.length) (hst : st = al.reverse ++ .ref a :: rest) (hW : (rest.map fun v => v.category).sum = W) (hls : ls.length = maxL)
    (hf : rm'.frames + 1 ≤ rm.frames) (hl : W + (ml + 11) + rm'.locals ≤ rm.locals) (hL : L = L0 ++ L1) {cells' slots' : Nat} (hc : cells + rm'.cells = cells') (hsl : slots + rm'.slots = slots') (hc' : cells' ≤ rm.cells) (hs' : slots' ≤ rm.slots) (k : ∀ v L', G' v L' → Wp K cells' slots' (L' ++ L1) pc' ls (v.toList ++ rest)) : Wp K cells slots L pc ls st := by
  refine wp_call C (len := 3) (W := W) hM wc wz hf hl hL (fun p e s m args below meth c vm0 T locs Pre Post hx hb hml hown hZ hI X hK hp => ?_) hpc hc hsl hc' hs' k
  obtain ⟨cq, kq, qa, qb, qc⟩ := isOf (s := s.setVm vm0) (T := T) hZ rfl (It.exa (hI _ (List.mem_of_getElem? hR)))
  exact X.virtualBackS hx hown (mvT (s := s.setVm vm0) hZ lk) (mvT (s := s.setVm vm0) hZ wd) (wnf (s.setVm vm0) hZ) (mvT (s := s.setVm vm0) hZ wsel) (mvT (s := s.setVm vm0) hZ wi) hy hK qa qc (g := mkF m pc ls.toArray st) rfl (sz hml hls) (Steps.refl _) (argsL := al) (rest := rest) (lenOf hd hlen) hst (by show 2 * 0 + _ ≤ _; omega) (C.dec hi hb) hp
theorem nf_self {Cn : String} {y' : MethodName} (w : (Cond.selects Cn y' y').before a0 Z = true) : ∀ s : State, Z.Warmed39 s.vm → NotFace s y' := fun s hZ => notFace_of_selects (args := #[]) (mvT hZ w)
theorem wp_private (C : Cx K l Z a0 EL nw y bytes maxL ret rm G B) {y' : MethodName} {by' : ByteArray} {ml ix : Nat} {rt : Option FieldType} {rm' : Room} {a : Addr} {w : Bool} {Kc : Kd} {vs : List Value} {al rest : List Value} {ps : List FieldType} {L0 L1 : List Item} {G' : Option Value → List Item → Prop} {W : Nat} (j pc' i : Nat)
    (hM : Ct l Z EL nw y' by' ml rt [] rm' (.ref a :: al) L0 G') (hi : B[j]? = some (pc, .invokevirtual ix, 3)) (hpc : pc + 3 = pc') (hR : L[i]? = some (a, w, .inl Kc, vs)) (lk : (Cond.methodLink y.cls ix y').before a0 Z = true) (wi : (Cond.instanceMethod y').before a0 Z = true) (wsel : (Cond.selects y'.cls y' y').before a0 Z = true) (wp : (Cond.privateMethod y').before a0 Z = true) (wc : (Cond.code y' by' ml rt).before a0 Z = true) (wz : (Cond.initialized y'.cls).before a0 Z = true)
    (hy : y'.cls ≠ "java/lang/invoke/MethodHandle" ∧ y'.cls ≠ "java/lang/invoke/VarHandle") (hd : parseMethodDescriptor y'.desc = some ⟨ps, rt⟩) (hlen : al.length = ps.length) (hst : st = al.reverse ++ .ref a :: rest) (hW : (rest.map fun v => v.category).sum = W) (hls : ls.length = maxL)
    (hf : rm'.frames + 1 ≤ rm.frames) (hl : W + (ml + 11) + rm'.locals ≤ rm.locals) (hL : L = L0 ++ L1) {cells' slots' : Nat} (hc : cells + rm'.cells = cells') (hsl : slots + rm'.slots = slots') (hc' : cells' ≤ rm.cells) (hs' : slots' ≤ rm.slots) (k : ∀ v L', G' v L' → Wp K cells' slots' (L' ++ L1) pc' ls (v.toList ++ rest)) : Wp K cells slots L pc ls st := by
  refine wp_call C (len := 3) (W := W) hM wc wz hf hl hL (fun p e s m args below meth c vm0 T locs Pre Post hx hb hml hown hZ hI X hK hp => ?_) hpc hc hsl hc' hs' k
  obtain ⟨cq, q1, q2⟩ := (It.exa (hI _ (List.mem_of_getElem? hR))).cell
  exact X.privateBackS hx hown (mvT (s := s.setVm vm0) hZ lk) (mvT (s := s.setVm vm0) hZ wi) (mvT (s := s.setVm vm0) hZ wsel) (Cond.privateMethod_at (mvP (s := s.setVm vm0) hZ wp (args := #[]))) (mvT (s := s.setVm vm0) hZ wc) hy hK (g := mkF m pc ls.toArray st) rfl (sz hml hls) (Steps.refl _) (a := a) q1 q2 (argsL := al) (rest := rest) (lenOf hd hlen) hst (by show 2 * 0 + _ ≤ _; omega) (C.dec hi hb) hp
/-- Object's constructor -/
theorem wp_initO (C : Cx K l Z a0 EL nw y bytes maxL ret rm G B) {ix : Nat} {a : Addr} {W : Nat} (j pc' : Nat) (hi : B[j]? = some (pc, .invokespecial ix, 3)) (hp : pc + 3 = pc') (w1 : (Cond.methodLink y.cls ix Lib.objectInit).before a0 Z = true) (w2 : (Cond.instanceMethod Lib.objectInit).before a0 Z = true) (w3 : (Cond.code Lib.objectInit ⟨#[0xb1]⟩ 1 none).before a0 Z = true)
    (hf : 1 ≤ rm.frames) (hW : (st.map fun v => v.category).sum = W) (hl : W + 12 ≤ rm.locals) (hls : ls.length = maxL) (k : Wp K cells slots L pc' ls st) : Wp K cells slots L pc ls (.ref a :: st) := by
  subst hp
  exact wp_step C (fun p e s m args below meth c vm0 T locs F hx hb hml hown hZ hH X => initO X hx (s := s.setVm vm0) hZ hown w1 w2 w3 rfl (g := mkF m pc ls.toArray (.ref a :: st)) rfl (sz hml hls) rfl (C.dec hi hb) hf (W := W) (by show 2 * 0 + _ ≤ _; omega) hl) k
end Rules
end Jvm.Wk
namespace Jvm.Wk
open Jvm.RoadKit
/-! sums within bounds -/
theorem one32 : (1 : Int32).toInt = 1 := rfl
theorem zero32 : (0 : Int32).toInt = 0 := rfl
theorem addI {x z : Int32} {a b : Int} (hx : x.toInt = a) (hz : z.toInt = b) (h1 : -2147483648 ≤ a + b := by omega) (h2 : a + b < 2147483648 := by omega) : (x + z).toInt = a + b := by
  have h := c_iadd x z
  have r := rng32 (x + z)
  generalize x + z = s at *
  omega
theorem subI {x z : Int32} {a b : Int} (hx : x.toInt = a) (hz : z.toInt = b) (h1 : -2147483648 ≤ a - b := by omega) (h2 : a - b < 2147483648 := by omega) : (x - z).toInt = a - b := by
  have h := c_isub x z
  have r := rng32 (x - z)
  generalize x - z = s at *
  omega
theorem mulI {x z : Int32} {a b : Int} (hx : x.toInt = a) (hz : z.toInt = b) (h1 : -2147483648 ≤ a * b) (h2 : a * b < 2147483648) : (x * z).toInt = a * b := by
  have h := c_imul x z
  have r := rng32 (x * z)
  rw [hx, hz] at h
  generalize x * z = s at *
  generalize a * b = c at *
  omega
theorem ushI {x : Int32} {a : Int} (hx : x.toInt = a) (h : 0 ≤ a) : (ush x 1).toInt = a / 2 := by
  have e : (ush x 1).toInt = (x.toInt % 4294967296) / (2 ^ 1 : Nat) := c_iushr x 1 1 (by decide) (by decide)
  have r := rng32 x
  rw [e, hx]
  simp only [Nat.pow_one]
  omega
end Jvm.Wk
namespace Jvm.Wk
open Sem ClassFile Op Lib Jvm.Stand Jvm.Free Jvm.LawKit Jvm.RoadKit
/-! String constants, cold -/
abbrev kVC : Kd := ("java/lang/String", [("java/lang/String", "value", "[B"), ("java/lang/String", "coder", "B")])
abbrev kCV : Kd := ("java/lang/String", [("java/lang/String", "coder", "B"), ("java/lang/String", "value", "[B")])
section Lits
variable {K : Cxt} {l : Launch} {Z : State} {a0 : Array Value} {EL : List (String × Nat)} {nw : Bool} {y : MethodName} {bytes : ByteArray} {maxL : Nat} {ret : Option FieldType} {rm : Room} {G : Option Value → List Item → Prop} {B : Prog} {cells slots pc j : Nat} {L : List Item} {ls : List Slot} {st : List Value}
theorem wp_ldcO (C : Cx K l Z a0 EL false y bytes maxL ret rm G B) {ix n : Nat} {text : String} (j pc' : Nat) (hi : B[j]? = some (pc, .ldc ix, 2)) (hp : pc + 2 = pc') (w : (Cond.stringLink y.cls ix text).before a0 Z = true) (wS : ∀ a ∈ Bundle.stringAtoms, a.before a0 Z = true) (hn : 4 * text.toList.length ≤ n) (hbig : n ≤ 536870912)
    {cells' slots' : Nat} (hc : cells + 2 = cells') (hl : slots + (n + 4) = slots') (hc' : cells' ≤ rm.cells) (hl' : slots' ≤ rm.slots) (k : ∀ a : Addr, Wp K cells' slots' L pc' ls (.ref a :: st)) : Wp K cells slots L pc ls st := by
  subst hp hc hl
  have C' := C
  obtain ⟨p, e, s, m, args, below, meth, c, F, rfl, hx, hb, hml, hret, hlk, hown, hnm, hEL, hB⟩ := C
  intro vm0 k0 T locs X hS hk hnw hZ hF hg hH
  obtain ⟨a, T', h', k1, X', rfl, E, hS', hk', hW, hf, hC, -, stp⟩ := ldcOH X hx hZ (show vm0.findClass y.cls = some m.cls by rw [hS.1.alike.findClass]; exact hown) w wS rfl hS hk hEL hH.2.1 (g := mkF m pc ls.toArray st) rfl (C'.dec hi hb) hn hbig hc' hl'
  obtain ⟨t, o, h1, h2⟩ := k a T'.vm k1 T' locs X' hS' hk' (fun q => nomatch q) hW hF (Nat.le_trans hg E.1) (hH.later E hC)
  exact ⟨t, o, stp t h1, h2⟩
theorem Ay.of_arv {h : Heap} {b : Addr} {kc : ClassId} {z : Int32} {vs : List Value} {dv : Value} (F : Arv Z h b kc .byte z vs dv) (hl : z.toNatClampNeg = vs.length) (hb : vs.length < 2 ^ 31) : Ay Z h b false .byte vs := by
  obtain ⟨c, A, -, hs, -, H, Gf⟩ := F
  have e : c.slots = vs.toArray := by
    apply Array.ext_getElem?
    intro i
    by_cases q : i < c.slots.size
    · rw [H i q]
      have q2 : i < vs.length := by omega
      simp [List.getD_eq_getElem?_getD, q2]
    · rw [Array.getElem?_eq_none (by omega), Array.getElem?_eq_none (by simp; omega)]
  refine ⟨c, A, e, hb, fun v hv => ?_, fun q => nomatch q⟩
  obtain ⟨i, hi, rfl⟩ := List.getElem_of_mem hv
  have := Gf i (by omega)
  simpa [List.getD_eq_getElem?_getD, hi] using this
theorem wp_ldcC (C : Cx K l Z a0 EL false y bytes maxL ret rm G B) {ix n : Nat} {text : String} {vs : List Value} {Kc : Kd} {mk : Addr → List Value} (z : Int32) (j pc' : Nat) (hi : B[j]? = some (pc, .ldc ix, 2)) (hp : pc + 2 = pc') (w : (Cond.stringLink y.cls ix text).before a0 Z = true) (wS : ∀ a ∈ Bundle.stringAtoms, a.before a0 Z = true) (hmem : (y.cls, ix) ∈ EL)
    (ht : (∀ c ∈ text.toList, c.toNat < 256) ∧ text.toList.map (fun c => Value.int (Jvm.Lit.byteI c.toNat.toUInt16)) = vs) (hz : ¬ z < 0) (hzl : z.toNatClampNeg = vs.length) (hvl : vs.length < 2 ^ 31) (hK : (Kc = kVC ∧ mk = fun b => [.ref b, .int 0]) ∨ (Kc = kCV ∧ mk = fun b => [.int 0, .ref b]))
    (hn : 4 * text.toList.length ≤ n) (hbig : n ≤ 536870912) {cells' slots' : Nat} (hc : cells + 2 = cells') (hl : slots + (n + 4) = slots') (hc' : cells' ≤ rm.cells) (hl' : slots' ≤ rm.slots) (k : ∀ a b : Addr, Wp K cells' slots' ((a, false, .inl Kc, mk b) :: (b, false, .inr .byte, vs) :: L) pc' ls (.ref a :: st)) : Wp K cells slots L pc ls st := by
  subst hp hc hl
  have C' := C
  obtain ⟨p, e, s, m, args, below, meth, c, F, rfl, hx, hb, hml, hret, hlk, hown, hnm, hEL, hB⟩ := C
  intro vm0 k0 T locs X hS hk hnw hZ hF hg hH
  obtain ⟨a, T', h', k1, b, kc, X', rfl, E, hS', hk', hW, hf, A1, A2, A3, A4, -, -, hC, -, hsafe, stp⟩ := ldcCH X hx hZ (show vm0.findClass y.cls = some m.cls by rw [hS.1.alike.findClass]; exact hown) w wS rfl hS hk hEL hmem hH.2.1 ht hz hzl (g := mkF m pc ls.toArray st) rfl (C'.dec hi hb) hn hbig hc' hl'
  have hL := hH.later E hC
  have hne : ∀ q ∈ ((L ++ F).map key), q.2 = true → a ≠ q.1 ∧ b ≠ q.1 := fun q hq hw => by
    have := hsafe q.1 (hL.2.2.2.2 q hq hw).2
    exact ⟨Ne.symm this.1, Ne.symm this.2⟩
  have hL1 : Hp Z EL T'.vm T'.heap ((b, false, .inr .byte, vs) :: (L ++ F)) := hL.add (fun q hq hw => (hne q hq hw).2) (Ay.of_arv A4 hzl hvl)
  have hO : Ob Z T'.heap a Kc (mk b) := by
    rcases hK with ⟨rfl, rfl⟩ | ⟨rfl, rfl⟩
    · refine ⟨A1, fun i f v hf' hv => ?_⟩
      match i, hf', hv with
      | 0, hf', hv => cases hf'; cases hv; exact A3
      | 1, hf', hv => cases hf'; cases hv; exact A2
    · refine ⟨A1, fun i f v hf' hv => ?_⟩
      match i, hf', hv with
      | 0, hf', hv => cases hf'; cases hv; exact A2
      | 1, hf', hv => cases hf'; cases hv; exact A3
  have hL2 : Hp Z EL T'.vm T'.heap ((a, false, .inl Kc, mk b) :: (b, false, .inr .byte, vs) :: (L ++ F)) := hL1.add (fun q hq hw => by
    rcases List.mem_cons.mp hq with rfl | hq
    · cases hw
    · exact (hne q hq hw).1) ⟨hO, fun q => nomatch q⟩
  obtain ⟨t, o, h1, h2⟩ := k a b T'.vm k1 T' locs X' hS' hk' (fun q => nomatch q) hW hF (Nat.le_trans hg E.1) hL2
  exact ⟨t, o, stp t h1, h2⟩
end Lits
end Jvm.Wk
namespace Jvm.Wk
open Sem ClassFile Op Lib Jvm.Stand Jvm.Free Jvm.LawKit Jvm.RoadKit
section More
variable {K : Cxt} {l : Launch} {Z : State} {a0 : Array Value} {EL : List (String × Nat)} {nw : Bool} {y : MethodName} {bytes : ByteArray} {maxL : Nat} {ret : Option FieldType} {rm : Room} {G : Option Value → List Item → Prop} {B : Prog} {cells slots pc j : Nat} {L : List Item} {ls : List Slot} {st : List Value}
/-- two known cells, one of them new: two addresses -/
theorem wp_ne (C : Cx K l Z a0 EL nw y bytes maxL ret rm G B) {a b : Addr} {wa wb : Bool} {D E : Kd ⊕ FieldType} {us vs : List Value} (i i' : Nat) (hi : L[i]? = some (a, wa, D, us)) (hi' : L[i']? = some (b, wb, E, vs)) (hij : i < i') (hw : (wa || wb) = true) (k : a ≠ b → Wp K cells slots L pc ls st) : Wp K cells slots L pc ls st := by
  obtain ⟨p, e, s, m, args, below, meth, c, F, rfl, -⟩ := C
  intro vm0 k0 T locs X hS hk hn hZ hF hg hH
  refine k ?_ vm0 k0 T locs X hS hk hn hZ hF hg hH
  have h1 : ((L ++ F).map key)[i]? = some (a, wa) := by rw [List.getElem?_map, app_at hi]; rfl
  have h2 : ((L ++ F).map key)[i']? = some (b, wb) := by rw [List.getElem?_map, app_at hi']; rfl
  obtain ⟨q1, e1⟩ := List.getElem?_eq_some_iff.mp h1
  obtain ⟨q2, e2⟩ := List.getElem?_eq_some_iff.mp h2
  have := List.pairwise_iff_getElem.mp hH.2.2.2.1 i i' q1 q2 hij
  rw [e1, e2] at this
  exact this hw
theorem wp_instY (C : Cx K l Z a0 EL nw y bytes maxL ret rm G B) {ix : Nat} {Kn : String} {a : Addr} {w : Bool} {Kc : Kd} {vs : List Value} (j pc' i : Nat) (hi : B[j]? = some (pc, .instanceof ix, 3)) (hp : pc + 3 = pc') (lk : (Cond.classLink y.cls ix Kn).before a0 Z = true) (wc : (Cond.castable Kc.1 Kn).before a0 Z = true) (hL : L[i]? = some (a, w, .inl Kc, vs))
    (k : Wp K cells slots L pc' ls (.int 1 :: st)) : Wp K cells slots L pc ls (.ref a :: st) := by
  subst hp
  exact wp_step C (fun p e s m args below meth c vm0 T locs F hx hb hml hown hZ hH X => instY X hx (s := s.setVm vm0) hZ hown lk rfl (Ins.of_exa (hH.obj (app_at hL)).1 wc) (g := mkF m pc ls.toArray (.ref a :: st)) rfl rfl (C.dec hi hb)) k
theorem wp_castY (C : Cx K l Z a0 EL nw y bytes maxL ret rm G B) {ix : Nat} {Kn : String} {a : Addr} {w : Bool} {Kc : Kd} {vs : List Value} (j pc' i : Nat) (hi : B[j]? = some (pc, .checkcast ix, 3)) (hp : pc + 3 = pc') (lk : (Cond.classLink y.cls ix Kn).before a0 Z = true) (wc : (Cond.castable Kc.1 Kn).before a0 Z = true) (hL : L[i]? = some (a, w, .inl Kc, vs))
    (k : Wp K cells slots L pc' ls (.ref a :: st)) : Wp K cells slots L pc ls (.ref a :: st) := by
  subst hp
  exact wp_step C (fun p e s m args below meth c vm0 T locs F hx hb hml hown hZ hH X => castY X hx (s := s.setVm vm0) hZ hown lk rfl (Ins.of_exa (hH.obj (app_at hL)).1 wc) (g := mkF m pc ls.toArray (.ref a :: st)) rfl rfl (C.dec hi hb)) k
end More
end Jvm.Wk
namespace Jvm.Wk
open Sem ClassFile Op Lib Jvm.Stand Jvm.Free Jvm.LawKit Jvm.RoadKit
/-! System.arraycopy -/
section Copies
variable {Z : State} {EL : List (String × Nat)} {vm : Vm} {h h' : Heap} {L L' : List Item} {x : Item} {a : Addr}
theorem It.keepO (K : Keep h h' [a]) (q : x.1 ≠ a) (I : It Z h x) : It Z h' x := by
  obtain ⟨b, w, D, vs⟩ := x
  have hn : b ∉ [a] := fun z => q (List.mem_singleton.mp z)
  cases D with
  | inl Kd => exact ⟨⟨(I.1.1 : Exa Z h b Kd.1).keep K, fun i f v p r => (I.1.2 i f v p r).keep K hn⟩, fun hw => by obtain ⟨cell, u1, u2⟩ := I.2 hw; exact ⟨cell, K.2.1 _ _ u1 hn, u2⟩⟩
  | inr ty => obtain ⟨c, A, r⟩ := I; exact ⟨c, ⟨K.2.1 b c A.1 hn, A.2⟩, r⟩
theorem Hp.keepO {i : Nat} {D D' : Kd ⊕ FieldType} {vs vs' : List Value} (H : Hp Z EL vm h L) (hi : L[i]? = some (a, true, D, vs)) (K : Keep h h' [a]) (I : It Z h' (a, true, D', vs')) : Hp Z EL vm h' (L.set i (a, true, D', vs')) := by
  obtain ⟨H1, H2, H3, H4, H5⟩ := H
  have hk : (L.map key)[i]? = some (a, true) := by rw [List.getElem?_map, hi]; rfl
  have em : (L.set i (a, true, D', vs')).map key = L.map key := by rw [List.map_set]; exact set_same hk
  have ha := H5 _ (List.mem_of_getElem? hk) rfl
  have hs : ∀ x ∈ [a], Safe Z EL vm h x := fun x hx => by cases List.mem_singleton.mp hx; exact ha.2
  refine ⟨(Old.keep ⟨rfl, H1⟩ K (fun x hx => by cases List.mem_singleton.mp hx; exact ha.1)).2, H2.keep K hs, ?_, by rw [em]; exact H4, ?_⟩
  · intro y hy
    obtain ⟨j, hj⟩ := List.mem_iff_getElem?.mp hy
    rw [List.getElem?_set] at hj
    split at hj
    · split at hj
      · cases hj; exact I
      · cases hj
    · rename_i hne
      refine (H3 y (List.mem_of_getElem? hj)).keepO K ?_
      have hkj : (L.map key)[j]? = some (key y) := by rw [List.getElem?_map, hj]; rfl
      obtain ⟨hi1, hi2⟩ := List.getElem?_eq_some_iff.mp hk
      obtain ⟨hj1, hj2⟩ := List.getElem?_eq_some_iff.mp hkj
      have P := List.pairwise_iff_getElem.mp H4
      rcases Nat.lt_or_gt_of_ne hne with q | q
      · have := P i j hi1 hj1 q
        rw [hi2, hj2] at this
        exact Ne.symm (this rfl)
      · have := P j i hj1 hi1 q
        rw [hi2, hj2] at this
        exact this (by simp)
  · rw [em]
    exact fun k hk hw => ⟨(H5 k hk hw).1, Safe.keep K hs H2 (H5 k hk hw).2⟩
theorem len32N {n : Nat} (h : n < 2 ^ 31) : (Int32.ofNat n).toNatClampNeg = n ∧ ¬ Int32.ofNat n < 0 := by
  have e : (Int32.ofNat n).toInt = n := Int32.toInt_ofNat_of_lt (by omega)
  refine ⟨by simp only [Int32.toNatClampNeg, e]; rfl, fun q => ?_⟩
  rw [Int32.lt_iff_toInt_lt, e] at q
  have : (0 : Int32).toInt = 0 := rfl
  omega
theorem Ay.arv {w : Bool} {ty : FieldType} {vs : List Value} (I : Ay Z h a w ty vs) : ∃ k, Arv Z h a k ty (Int32.ofNat vs.length) vs .null := by
  obtain ⟨c, A, e, hl, hf, -⟩ := I
  have hs : c.slots.size = vs.length := by rw [e]; rfl
  refine ⟨c.cls, c, A, rfl, by rw [(len32N hl).1]; exact hs, (len32N hl).2, fun i hi => ?_, fun i hi => ?_⟩
  · rw [e]; simp [List.getD_eq_getElem?_getD, hs ▸ hi]
  · have q : i < vs.length := hs ▸ hi
    simpa [List.getD_eq_getElem?_getD, q] using hf _ (List.getElem_mem q)
theorem Ay.of_arvP {w : Bool} {ty : FieldType} {b : Addr} {kc : ClassId} {z : Int32} {vs : List Value} {dv : Value} (hp : refKind ty = false) (F : Arv Z h b kc ty z vs dv) (hl : z.toNatClampNeg = vs.length) (hb : vs.length < 2 ^ 31) : Ay Z h b w ty vs := by
  obtain ⟨c, A, -, hs, -, H, Gf⟩ := F
  have e : c.slots = vs.toArray := by
    apply Array.ext_getElem?
    intro i
    by_cases q : i < c.slots.size
    · rw [H i q]
      have q2 : i < vs.length := by omega
      simp [List.getD_eq_getElem?_getD, q2]
    · rw [Array.getElem?_eq_none (by omega), Array.getElem?_eq_none (by simp; omega)]
  refine ⟨c, A, e, hb, fun v hv => ?_, fun _ C q => by subst q; cases hp⟩
  obtain ⟨i, hi, rfl⟩ := List.getElem_of_mem hv
  have := Gf i (by omega)
  simpa [List.getD_eq_getElem?_getD, hi] using this
theorem stretch_eq {vs : List Value} {ns n : Nat} (h : ns + n ≤ vs.length) : (List.range n).map (fun i => vs.getD (ns + i) .null) = (vs.drop ns).take n := by
  apply List.ext_getElem?
  intro i
  by_cases q : i < n
  · have q2 : ns + i < vs.length := by omega
    simp [q, List.getD_eq_getElem?_getD, q2, List.getElem?_take, List.getElem?_drop]
  · simp [q, List.getElem?_take]
end Copies
section Rules
variable {K : Cxt} {l : Launch} {Z : State} {a0 : Array Value} {EL : List (String × Nat)} {nw : Bool} {y : MethodName} {bytes : ByteArray} {maxL : Nat} {ret : Option FieldType} {rm : Room} {G : Option Value → List Item → Prop} {B : Prog} {cells slots pc j : Nat} {L : List Item} {ls : List Slot} {st : List Value}
theorem wp_copy (C : Cx K l Z a0 EL nw y bytes maxL ret rm G B) {ix ns nd n W : Nat} {a b : Addr} {wa : Bool} {ty : FieldType} {vs vd vd' : List Value} {sp dp nn : Int32} (j pc' i i' : Nat) (hi : B[j]? = some (pc, .invokestatic ix, 3)) (hp : pc + 3 = pc')
    (w1 : (Cond.methodLink y.cls ix Jvm.Stand.acN).before a0 Z = true) (w2 : (Cond.native Jvm.Stand.acN).before a0 Z = true) (w3 : (Cond.static Jvm.Stand.acN).before a0 Z = true) (w4 : (Cond.initialized "java/lang/System").before a0 Z = true) (hpr : refKind ty = false)
    (hA : L[i]? = some (a, wa, .inr ty, vs)) (hB : L[i']? = some (b, true, .inr ty, vd)) (hsp : sp.toInt = ns) (hdp : dp.toInt = nd) (hnn : nn.toInt = n) (h4 : ns + n ≤ vs.length) (h5 : nd + n ≤ vd.length) (hs : vd.take nd ++ (vs.drop ns).take n ++ vd.drop (nd + n) = vd') {L' : List Item} (hL' : L.set i' (b, true, .inr ty, vd') = L')
    (hf : 1 ≤ rm.frames) (hW : (st.map fun v => v.category).sum = W) (hl : W + (nativeFrameWords "java/lang/System" "arraycopy" 5 + 11) ≤ rm.locals) (hls : ls.length = maxL) (k : Wp K cells slots L' pc' ls st) : Wp K cells slots L pc ls (.int nn :: .int dp :: .ref b :: .int sp :: .ref a :: st) := by
  subst hp hs hL'
  have C' := C
  obtain ⟨p, e, s, m, args, below, meth, c, F, rfl, hx, hb, hml, hret, hlk, hown, hnm, hEL, hBB⟩ := C
  intro vm0 k0 T locs X hS hk hnw hZ hF hg hH
  have HA := hH.arr (app_at (F := F) hA)
  have HB := hH.arr (app_at (F := F) hB)
  have hbig : vd.length < 2 ^ 31 := by obtain ⟨c, A, e, q, -⟩ := HB; exact q
  have hbigA : vs.length < 2 ^ 31 := by obtain ⟨c, A, e, q, -⟩ := HA; exact q
  obtain ⟨ka, AA⟩ := HA.arv
  obtain ⟨kb, AB⟩ := HB.arv
  have t1 := toNat_of hsp; have t2 := toNat_of hdp; have t3 := toNat_of hnn
  obtain ⟨T', h', L1, X', rfl, hF', hK, A', stp⟩ := cpA X hx (s := s.setVm vm0) hZ (show vm0.findClass y.cls = some m.cls by rw [hS.1.alike.findClass]; exact hown) w1 w2 w3 w4 rfl AA AB (Or.inl ⟨rfl, hpr⟩) (us := (vs.drop ns).take n) t1.1 t2.1 t3.1 (by rw [t1.2, t3.2, (len32N hbigA).1]; exact h4) (by rw [t2.2, t3.2, (len32N hbig).1]; exact h5) (by rw [t1.2, t3.2]; exact (stretch_eq h4).symm) (by rw [t2.2, t3.2]; exact h5) hF (hH.new (app_at (F := F) hB)).1 (g := mkF m pc ls.toArray (.int nn :: .int dp :: .ref b :: .int sp :: .ref a :: st)) rfl (sz hml hls) rfl (C'.dec hi hb) hf (W := W) (by show 2 * 0 + _ ≤ _; omega) hl
  rw [t2.2, t3.2] at A'
  have hlen : (vd.take nd ++ (vs.drop ns).take n ++ vd.drop (nd + n)).length = vd.length := by
    simp only [List.length_append, List.length_take, List.length_drop]; omega
  have I : It Z T'.heap (b, true, .inr ty, vd.take nd ++ (vs.drop ns).take n ++ vd.drop (nd + n)) := Ay.of_arvP hpr A' (by rw [(len32N hbig).1, hlen]) (by rw [hlen]; exact hbig)
  have hH' := hH.keepO (app_at (F := F) hB) hK I
  rw [app_set hB] at hH'
  obtain ⟨t, o, q1, q2⟩ := k vm0 k0 T' L1 X' hS (Nat.le_trans hk hK.1) hnw hZ hF' (Nat.le_trans hg hK.1) hH'
  exact ⟨t, o, stp t q1, q2⟩
end Rules
end Jvm.Wk
namespace Jvm.Wk
open Sem ClassFile Op Lib Jvm.Stand Jvm.Free Jvm.LawKit Jvm.RoadKit
/-! super calls; words derived from their siblings -/
section Words
variable {Z : State} {a0 : Array Value}
theorem selects_own {Cn : String} {y : MethodName} (hy : y.cls ≠ "java/lang/invoke/MethodHandle" ∧ y.cls ≠ "java/lang/invoke/VarHandle") (hs : (Cond.selects Cn y y).before a0 Z = true) (hpriv : (Cond.privateMethod y).before a0 Z = true) (hinst : (Cond.instanceMethod y).before a0 Z = true) : (Cond.selects y.cls y y).before a0 Z = true := by
  obtain ⟨mk, methM, hnamed, hmethM, -, -⟩ := Cond.instanceMethod_spec hinst
  obtain ⟨c2, r2, m2, -, -, q3, -, kP, hkP, hkPi⟩ := Cond.selects_spec hs
  cases hnamed.symm.trans q3
  have hfound : Z.methodFound? y.cls y.name y.desc = some mk := State.methodFound?_of_named hnamed hy
  have hc := findClass_of_methodNamed hnamed
  have hsel : selectMethod {} Z.vm mk.cls mk = .method mk := selectMethod_private hmethM (Cond.privateMethod_at hpriv mk methM hnamed hmethM)
  simp only [Cond.before, Cond.holds, Cond.value, hc, hfound, hnamed, hsel, hkP]
  simp; exact hkPi
theorem nf_sib {Cn : String} {x w y : MethodName} (hs : (Cond.selects Cn x w).before a0 Z = true) (hc : w.cls = y.cls) : ∀ s : State, Z.Warmed39 s.vm → NotFace s y := fun s hZ r0 h0 => by
  obtain ⟨c2, r2, m2, -, -, q3, -, kP, hkP, hkPi⟩ := Cond.selects_spec (mvT (args := #[]) (s := s) hZ hs)
  have e1 := findClass_of_methodNamed q3
  have e2 := findClass_of_methodNamed h0
  rw [hc] at e1
  have e3 := Option.some.inj (e1.symm.trans e2)
  rw [e3] at hkP
  exact ⟨kP, hkP, hkPi⟩
theorem same_sib {Cn : String} {x w y : MethodName} (hy : y.cls ≠ "java/lang/invoke/MethodHandle" ∧ y.cls ≠ "java/lang/invoke/VarHandle") (hs : (Cond.selects Cn x w).before a0 Z = true) (hc : w.cls = y.cls) (hinst : (Cond.instanceMethod y).before a0 Z = true) : (Cond.sameMethod y.cls y.cls y.name y.desc).before a0 Z = true := by
  obtain ⟨mk, methM, hnamed, hmethM, -, -⟩ := Cond.instanceMethod_spec hinst
  obtain ⟨c2, r2, m2, -, -, q3, -, kP, hkP, hkPi⟩ := Cond.selects_spec hs
  have e1 := findClass_of_methodNamed q3
  have e2 := findClass_of_methodNamed hnamed
  rw [hc] at e1
  have e3 := Option.some.inj (e1.symm.trans e2)
  rw [e3] at hkP
  have hfound : Z.methodFound? y.cls y.name y.desc = some mk := State.methodFound?_of_named hnamed hy
  have hn2 : Z.methodNamed? ⟨y.cls, y.name, y.desc⟩ = some mk := hnamed
  simp only [Cond.before, Cond.holds, Cond.value, e2, hfound, hn2, hkP]
  simp; exact hkPi
end Words
section Rules
variable {K : Cxt} {l : Launch} {Z : State} {a0 : Array Value} {EL : List (String × Nat)} {nw : Bool} {y : MethodName} {bytes : ByteArray} {maxL : Nat} {ret : Option FieldType} {rm : Room} {G : Option Value → List Item → Prop} {B : Prog} {cells slots pc j : Nat} {L : List Item} {ls : List Slot} {st : List Value}
theorem wp_super (C : Cx K l Z a0 EL nw y bytes maxL ret rm G B) {y' : MethodName} {by' : ByteArray} {ml ix : Nat} {rt : Option FieldType} {rm' : Room} {a : Addr} {w : Bool} {Kc : Kd} {vs : List Value} {al rest : List Value} {ps : List FieldType} {L0 L1 : List Item} {G' : Option Value → List Item → Prop} {W : Nat} (j pc' i : Nat)
    (hM : Ct l Z EL nw y' by' ml rt [] rm' (.ref a :: al) L0 G') (hi : B[j]? = some (pc, .invokespecial ix, 3)) (hpc : pc + 3 = pc') (hR : L[i]? = some (a, w, .inl Kc, vs)) (lk : (Cond.methodLink y.cls ix y').before a0 Z = true) (wsm : (Cond.sameMethod y'.cls y'.cls y'.name y'.desc).before a0 Z = true) (wi : (Cond.instanceMethod y').before a0 Z = true) (wsu : (Cond.superclass y.cls y'.cls).before a0 Z = true) (hni : y'.name ≠ "<init>") (wc : (Cond.code y' by' ml rt).before a0 Z = true) (wz : (Cond.initialized y'.cls).before a0 Z = true)
    (hd : parseMethodDescriptor y'.desc = some ⟨ps, rt⟩) (hlen : al.length = ps.length) (hst : st = al.reverse ++ .ref a :: rest) (hW : (rest.map fun v => v.category).sum = W) (hls : ls.length = maxL)
    (hf : rm'.frames + 1 ≤ rm.frames) (hl : W + (ml + 11) + rm'.locals ≤ rm.locals) (hL : L = L0 ++ L1) {cells' slots' : Nat} (hc : cells + rm'.cells = cells') (hsl : slots + rm'.slots = slots') (hc' : cells' ≤ rm.cells) (hs' : slots' ≤ rm.slots) (k : ∀ v L', G' v L' → Wp K cells' slots' (L' ++ L1) pc' ls (v.toList ++ rest)) : Wp K cells slots L pc ls st := by
  refine wp_call C (len := 3) (W := W) hM wc wz hf hl hL (fun p e s m args below meth c vm0 T locs Pre Post hx hb hml hown hZ hI X hK hp => ?_) hpc hc hsl hc' hs' k
  exact superBackS X hx hZ hown lk wsm wi wsu hni hK rfl (Ins.self (It.exa (hI _ (List.mem_of_getElem? hR)))) (g := mkF m pc ls.toArray st) rfl (sz hml hls) wc (argsL := al) (rest := rest) (lenOf hd hlen) hst (by show 2 * 0 + _ ≤ _; omega) (C.dec hi hb) hp
end Rules
end Jvm.Wk
namespace Jvm.Wk
open Sem ClassFile Op Lib Jvm.Stand Jvm.Free Jvm.LawKit Jvm.RoadKit Bundle Jvm.Free.Exc
/-! EXCEPTIONS MADE (KitX): contracts that ask that the tables' methods and the frames beneath are known -/
def Kn : Cxt → Prop
  | (l, p, e, R, s, m, args, below, meth, c, Z, EL, nw, G, F) => s.vm.MethodsKnown ∧ s.vm.FramesKnown below ∧ Ext Z.heap s.heap
def CtK (l : Launch) (Z : State) (EL : List (String × Nat)) (nw : Bool) (y : MethodName) (bytes : ByteArray) (maxL : Nat) (ret : Option FieldType) (ws : List Cond) (rm : Room) (as : List Value) (L : List Item) (G : Option Value → List Item → Prop) : Prop :=
  ∀ F : List Item, MetFree l y (head1 (Cond.code y bytes maxL ret :: ws) rm) (fun a U => a = as.toArray ∧ Z.Warmed39 U.vm ∧ Hp Z EL U.vm U.heap (L ++ F)) (fun _ _ bl s _ => s.vm.MethodsKnown ∧ s.vm.FramesKnown bl) (fun _ U o U' => Fin rm U Z EL nw G F o U')
section Rules
variable {K : Cxt} {l : Launch} {Z : State} {a0 : Array Value} {EL : List (String × Nat)} {nw : Bool} {y : MethodName} {bytes : ByteArray} {maxL : Nat} {ret : Option FieldType} {rm : Room} {G : Option Value → List Item → Prop} {B : Prog} {cells slots pc j : Nat} {L : List Item} {ls : List Slot} {st : List Value}
theorem ct_ofK {as : List Value} {ws : List Cond} (hpl : plainFor y = true) (hB : okB bytes B = true) (hEL : EW Z a0 EL) (he : ∀ m : MethodId, entryFrame m as.toArray maxL = mkF m 0 ls.toArray [])
    (body : ∀ K, Cx K l Z a0 EL nw y bytes maxL ret rm G B → Kn K → Wp K 0 0 L 0 ls []) : CtK l Z EL nw y bytes maxL ret ws rm as L G := by
  intro F
  refine MetFree.of_bodySF hpl hisR ?_
  intro p e s m args below meth c s₁ Bd hml0 hP hK
  obtain ⟨rfl, hZ, hH⟩ := hP
  have X0 : Stand p l e rm (s.setVm s.vm) m as.toArray below meth c s₁ [] 0 0 := Stand.of_body Bd
  have hh : s₁.heap = s.heap := by rw [Bd.state]; rfl
  have hb := body (l, p, e, rm, s, m, as.toArray, below, meth, c, Z, EL, nw, G, F) ⟨p, e, s, m, as.toArray, below, meth, c, F, rfl, Bd.exec, Bd.bytes, hml0, Bd.returns, Bd.notSynchronized, findClass_of_methodNamed Bd.named, (name_of_methodNamed Bd.named Bd.method).1, hEL, hB⟩ ⟨hK.1, hK.2, hH.1⟩
  obtain ⟨t, o, h1, h2, h3, h4⟩ := hb s.vm 0 s₁ [] X0 ((State.WarmedH.refl s).since 0) (Nat.zero_le _) (fun _ => State.WarmedH.refl s) hZ (Fr.nil _) (Nat.le_of_eq (by rw [hh])) (by rw [hh]; exact hH)
  exact ⟨t, o, castTop (he m) h1, h2, h3, h4⟩
theorem ct_backK {y' : MethodName} {by' : ByteArray} {ml : Nat} {rt : Option FieldType} {rm' : Room} {as : List Value} {L0 F : List Item} {G' : Option Value → List Item → Prop} {R : Room} {p : Program} {e : Env} {below : List Frame} {s : State} {args : Array Value} {vm0 : Vm} {len W : Nat} {h : Heap}
    (hM : CtK l Z EL nw y' by' ml rt [] rm' as L0 G') (hZ : Z.Warmed39 vm0) (wc : (Cond.code y' by' ml rt).before a0 Z = true) (wz : (Cond.initialized y'.cls).before a0 Z = true) (hf : rm'.frames + 1 ≤ R.frames) (hl : W + (ml + 11) + rm'.locals ≤ R.locals) (hEL : EW Z a0 EL) (H : Hp Z EL vm0 h (L0 ++ F)) (hTK : vm0.MethodsKnown) (hBelow : vm0.FramesKnown below) :
    BackS l R p e below (s.setVm vm0) args y' len W (fun A a => a = as.toArray ∧ A.U.heap = h ∧ A.cells + rm'.cells ≤ R.cells ∧ A.slots + rm'.slots ≤ R.slots)
      (fun A _ v C => ∃ (Lc : List Loc) (L' : List Item), G' v L' ∧ Hp Z EL C.U.vm C.U.heap (L' ++ F) ∧ Fr Z.heap.size Lc ∧ (nw = true → A.U.WarmedH C.U.vm) ∧ C.locs = A.locs ++ Lc ∧ C.cells = A.cells + rm'.cells ∧ C.slots = A.slots + rm'.slots) :=
  BackS.of_freeWG (bytes := by') (maxL := ml) (ret := rt) (E := fun _ first o t L k n => k = rm'.cells ∧ n = rm'.slots ∧ ∃ v L', o = .returned v ∧ G' v L' ∧ Hp Z EL t.vm t.heap (L' ++ F) ∧ Fr Z.heap.size L ∧ (nw = true → first.WarmedH t.vm)) (hM F) hf hl
    (fun m meth c A a Y hp => have hU : Z.Warmed39 A.U.vm := wtrans (s := s.setVm vm0) hZ Y.warmed
      ⟨by show (Cond.and _ .tt).before a A.U = true; rw [Cond.before_and, mv hU wc]; rfl, mv hU wc, mv hU wz, hp.2.2.1, hp.2.2.2⟩)
    (fun m meth c A a g mk Y hp => ⟨hp.1, wtrans (s := s.setVm vm0) hZ Y.warmed, by
      show Hp Z EL A.U.vm A.U.heap (L0 ++ F)
      rw [hp.2.1]; exact H.at Y hZ hEL⟩) (fun m meth c A a g mk Y _ hg => known_frames Y hg hTK hBelow)
    (fun _ _ _ _ ⟨v, Lc, L', h1, h2, h3, h4, h5, h6, h7⟩ => ⟨Lc, _, _, h7, rfl, rfl, v, L', h1, h2, h3, h4, h5⟩)
    (fun m meth c A a g mk v t Lc k n Y hp _ _ ⟨e1, e2, v', L', e3, e4, e5, e6, e7⟩ => by
      cases e3; subst e1 e2
      exact ⟨Lc, L', e4, e5, e6, e7, rfl, rfl, rfl⟩)
theorem wp_staticK (C : Cx K l Z a0 EL nw y bytes maxL ret rm G B) (hKn : Kn K) {y' : MethodName} {by' : ByteArray} {ml ix : Nat} {rt : Option FieldType} {rm' : Room} {al rest : List Value} {ps : List FieldType} {L0 L1 : List Item} {G' : Option Value → List Item → Prop} {W : Nat} (j pc' : Nat)
    (hM : CtK l Z EL nw y' by' ml rt [] rm' al L0 G') (hi : B[j]? = some (pc, .invokestatic ix, 3)) (hpc : pc + 3 = pc') (lk : (Cond.methodLink y.cls ix y').before a0 Z = true) (ws : (Cond.static y').before a0 Z = true) (wc : (Cond.code y' by' ml rt).before a0 Z = true) (wz : (Cond.initialized y'.cls).before a0 Z = true)
    (hy : y'.cls ≠ "java/lang/invoke/MethodHandle" ∧ y'.cls ≠ "java/lang/invoke/VarHandle") (hd : parseMethodDescriptor y'.desc = some ⟨ps, rt⟩) (hlen : al.length = ps.length) (hst : st = al.reverse ++ rest) (hW : (rest.map fun v => v.category).sum = W) (hls : ls.length = maxL)
    (hf : rm'.frames + 1 ≤ rm.frames) (hl : W + (ml + 11) + rm'.locals ≤ rm.locals) (hL : L = L0 ++ L1) {cells' slots' : Nat} (hc : cells + rm'.cells = cells') (hsl : slots + rm'.slots = slots') (hc' : cells' ≤ rm.cells) (hs' : slots' ≤ rm.slots) (k : ∀ v L', G' v L' → Wp K cells' slots' (L' ++ L1) pc' ls (v.toList ++ rest)) : Wp K cells slots L pc ls st := by
  subst hpc hc hsl hL
  have C' := C
  obtain ⟨p, e, s, m, args, below, meth, c, F, rfl, hx, hb, hml, hret, hlk, hown, hnm, hEL, hB⟩ := C
  intro vm0 k0 T locs X hS hk hn hZ hF hg hH
  have hown' : (s.setVm vm0).vm.findClass y.cls = some m.cls := by rw [show (s.setVm vm0).vm = vm0 from rfl, hS.1.alike.findClass]; exact hown
  obtain ⟨v, vm₁, ⟨U, Lo, kc, ks⟩, hW1, X', hS', hgr, ⟨Lc, L', hG', hH', hFr, hn', e1, e2, e3⟩, hst⟩ := callSS X hx hown' (mvT (s := s.setVm vm0) hZ lk) (mvT (s := s.setVm vm0) hZ ws) (mvT (s := s.setVm vm0) hZ wz) (mvT (s := s.setVm vm0) hZ wc) hy
    (ct_backK (len := 3) (W := W) (F := L1 ++ F) (s := s) (args := args) hM hZ wc wz hf hl hEL (by rw [← List.append_assoc]; exact hH) (Vm.MethodsKnown.alikeC hS.1.alike hKn.1) (Vm.FramesKnown.alikeC hS.1.alike hKn.2.1)) (g := mkF m pc ls.toArray st) rfl (sz hml hls) (argsL := al) (rest := rest) (lenOf hd hlen) hst (by show 2 * 0 + _ ≤ _; omega) (C'.dec hi hb) (fun vm₁ _ => ⟨rfl, rfl, hc', hs'⟩)
  dsimp only [Pt.U, Pt.locs, Pt.cells, Pt.slots] at X' hS' hgr hH' hn' e1 e2 e3 hst
  subst e1 e2 e3
  obtain ⟨t, o, h1, h2⟩ := k v L' hG' U.vm U.heap.size U (locs ++ Lc) X' (hS.trans hS' (Nat.le_trans hk hgr)) (Nat.le_refl _) (fun q => State.WarmedH.trans (t := s.setVm vm0) (hn q) (State.WarmedH.trans (t := T.setVm vm₁) hW1 (hn' q))) (State.Warmed39.trans (t := s.setVm vm0) hZ hS'.1) (Fr.app hF hFr) (Nat.le_trans hg hgr) (by rw [List.append_assoc]; exact hH')
  exact ⟨t, o, hst.trans h1, h2⟩
def lvs : Cond → List Cond
  | .and a b => lvs a ++ lvs b
  | .tt => []
  | c => [c]
theorem of_lvs {args : Array Value} {s : State} (c : Cond) (h : ∀ w ∈ lvs c, w.before args s = true) : c.before args s = true := by
  induction c with
  | and a b iha ihb => rw [Cond.before_and, Bool.and_eq_true]; exact ⟨iha fun w hw => h w (List.mem_append_left _ hw), ihb fun w hw => h w (List.mem_append_right _ hw)⟩
  | tt => rfl
  | _ => exact h _ (List.mem_singleton.mpr rfl)
/-- an exception's constructor X(String) on an object made by this walk -/
theorem wp_exc1 (C : Cx K l Z a0 EL nw y bytes maxL ret rm G B) (hKn : Kn K) (hl : l.stackTraces = true) {links : List Link} {ic n W fb fm : Nat} {a : Addr} {Kc : Kd} {vs : List Value} {msg : Value} (j pc' i : Nat) (hi : B[j]? = some (pc, .invokespecial ic, 3)) (hp : pc + 3 = pc') (hok : linksOk 1 links = true)
    (w1 : (Cond.methodLink y.cls ic (ctor 1 (headName links))).before a0 Z = true) (w2 : (Cond.instanceMethod (ctor 1 (headName links))).before a0 Z = true) (wT : (chainTab 1 Kc.1 links).before a0 Z = true) (wi : (Cond.instantiable Kc.1 n).before a0 Z = true) (r : ∀ d ∈ twoRefs, d.before a0 Z = true)
    (hL : L[i]? = some (a, true, .inl Kc, vs)) (hb1 : Kc.2[fb]? = some ("java/lang/Throwable", "backtrace", "Ljava/lang/Object;")) (hb2 : vs[fb]? = some .null) (hm1 : Kc.2[fm]? = some ("java/lang/Throwable", "detailMessage", "Ljava/lang/String;")) (hm2 : vs[fm]? = some .null) (hmsg : msg.isRef = true)
    {L' : List Item} (hL' : L.set i (a, true, .inl (Kc.1, [("java/lang/Throwable", "detailMessage", "Ljava/lang/String;")]), [msg]) = L') (hf : 4 + links.length ≤ rm.frames) (hW : (st.map fun v => v.category).sum = W) (hlo : W + (56 + 14 * links.length) ≤ rm.locals) (hls : ls.length = maxL)
    {cells' slots' : Nat} (hc : cells + 1 = cells') (hsl : slots + 2752 = slots') (hc' : cells' ≤ rm.cells) (hs' : slots' ≤ rm.slots) (k : Wp K cells' slots' L' pc' ls st) : Wp K cells slots L pc ls (msg :: .ref a :: st) := by
  subst hp hL' hc hsl
  have C' := C
  obtain ⟨p, e, s, m, args, below, meth, c, F, rfl, hx, hb, hml, hret, hlk, hown, hnm, hEL, hB⟩ := C
  intro vm0 k0 T locs X hS hk hn hZ hF hg hH
  have hown' : (s.setVm vm0).vm.findClass y.cls = some m.cls := by rw [show (s.setVm vm0).vm = vm0 from rfl, hS.1.alike.findClass]; exact hown
  have hO := hH.obj (app_at (F := F) hL)
  obtain ⟨T', h', X', rfl, hK, E', N', hM', -, -, stp⟩ := excL1 X hx hl (s := s.setVm vm0) hZ hown' hok w1 w2 wT wi r (ThS.ext hKn.2.2 ThS.start) (ThS.ext hH.1 ThS.start) (Vm.MethodsKnown.alikeC hS.1.alike hKn.1) (Vm.FramesKnown.alikeC hS.1.alike hKn.2.1) rfl hO.1 (hH.unt (app_at (F := F) hL)) (hO.2 fb _ _ hb1 hb2) (hO.2 fm _ _ hm1 hm2) hmsg (g := mkF m pc ls.toArray (msg :: .ref a :: st)) rfl (sz hml hls) rfl (C'.dec hi hb) hf (by rw [hW]; show 2 * 0 + _ + _ ≤ _; omega) hc' hs'
  have I : It Z T'.heap (a, true, .inl (Kc.1, [("java/lang/Throwable", "detailMessage", "Ljava/lang/String;")]), [msg]) := ⟨⟨E', fun q f v hf hv => by
    match q, hf, hv with
    | 0, hf, hv => cases hf; cases hv; exact hM'⟩, fun _ => N'⟩
  have hK1 := keep_of_kp hK
  have hH' := hH.keepO (app_at (F := F) hL) hK1 I
  rw [app_set hL] at hH'
  obtain ⟨t, o, q1, q2⟩ := k vm0 k0 T' _ X' hS (Nat.le_trans hk hK1.1) hn hZ (Fr.six hF (hH.new (app_at (F := F) hL)).1) (Nat.le_trans hg hK1.1) hH'
  exact ⟨t, o, stp t q1, q2⟩
/-- a method that the named class inherits -/
theorem wp_virtualUp (C : Cx K l Z a0 EL nw y bytes maxL ret rm G B) {y' z' : MethodName} {owner : String} {by' : ByteArray} {ml ix : Nat} {rt : Option FieldType} {rm' : Room} {a : Addr} {w : Bool} {Kc : Kd} {vs : List Value} {al rest : List Value} {ps : List FieldType} {L0 L1 : List Item} {G' : Option Value → List Item → Prop} {W : Nat} (j pc' i : Nat)
    (hM : Ct l Z EL nw z' by' ml rt [] rm' (.ref a :: al) L0 G') (hi : B[j]? = some (pc, .invokevirtual ix, 3)) (hpc : pc + 3 = pc') (hR : L[i]? = some (a, w, .inl Kc, vs)) (lk : (Cond.methodLink y.cls ix y').before a0 Z = true) (wsm : (Cond.sameMethod y'.cls owner y'.name y'.desc).before a0 Z = true) (wd : (Cond.declares ⟨owner, y'.name, y'.desc⟩).before a0 Z = true) (hne : owner ≠ "java/lang/invoke/MethodHandle" ∧ owner ≠ "java/lang/invoke/VarHandle") (wsel : (Cond.selects Kc.1 y' z').before a0 Z = true) (wi : (Cond.instanceMethod z').before a0 Z = true) (wc : (Cond.code z' by' ml rt).before a0 Z = true) (wz : (Cond.initialized z'.cls).before a0 Z = true)
    (hd : parseMethodDescriptor y'.desc = some ⟨ps, rt⟩) (hlen : al.length = ps.length) (hst : st = al.reverse ++ .ref a :: rest) (hW : (rest.map fun v => v.category).sum = W) (hls : ls.length = maxL)
    (hf : rm'.frames + 1 ≤ rm.frames) (hl : W + (ml + 11) + rm'.locals ≤ rm.locals) (hL : L = L0 ++ L1) {cells' slots' : Nat} (hc : cells + rm'.cells = cells') (hsl : slots + rm'.slots = slots') (hc' : cells' ≤ rm.cells) (hs' : slots' ≤ rm.slots) (k : ∀ v L', G' v L' → Wp K cells' slots' (L' ++ L1) pc' ls (v.toList ++ rest)) : Wp K cells slots L pc ls st := by
  refine wp_call C (len := 3) (W := W) hM wc wz hf hl hL (fun p e s m args below meth c vm0 T locs Pre Post hx hb hml hown hZ hI X hK hp => ?_) hpc hc hsl hc' hs' k
  obtain ⟨cq, kq, qa, qb, qc⟩ := isOf (s := s.setVm vm0) (T := T) hZ rfl (It.exa (hI _ (List.mem_of_getElem? hR)))
  exact X.virtualBackUpS hx (owner := owner) hown (mvT (s := s.setVm vm0) hZ lk) (mvT (s := s.setVm vm0) hZ wsm) (mvT (s := s.setVm vm0) hZ wd) hne (mvT (s := s.setVm vm0) hZ wsel) (mvT (s := s.setVm vm0) hZ wi) hK qa qc (g := mkF m pc ls.toArray st) rfl (sz hml hls) (Steps.refl _) (argsL := al) (rest := rest) (lenOf hd hlen) hst (by show 2 * 0 + _ ≤ _; omega) (C.dec hi hb) hp
end Rules
end Jvm.Wk
namespace Jvm.Wk
open Sem ClassFile Op Lib Jvm.Stand Jvm.Free Jvm.LawKit Jvm.RoadKit Bundle Jvm.Free.Exc Jvm.Free.Str
/-! FILLING IN A STACK TRACE, for a sheet that tells of Throwable's fields by the receiver's class (no word 'lays Throwable Throwable suppressedExceptions') -/
def fw (rc : String) : List Cond := [
  .initialized tN, .superclass tN "java/lang/Object", .instanceMethod tFill, .codeSync tFill LibCode.Throwable.Fill.code 1 (some (.object tN)), .instanceMethod tFill0, .native tFill0, .instanceMethod oInit, .code oInit ⟨#[0xb1]⟩ 1 none,
  .methodLink tN 1 oInit, .methodLink tN 27 tFill, .methodLink tN 202 tFill0,
  .fieldLink tN 7 tN "cause" thD, .fieldLink tN 17 tN "stackTrace" steD, .fieldLink tN 24 tN "suppressedExceptions" listD, .fieldLink tN 198 tN "backtrace" obD,
  .lays rc tN "cause" thD, .lays rc tN "stackTrace" steD, .lays rc tN "suppressedExceptions" listD, .lays rc tN "detailMessage" msgD, .lays rc tN "backtrace" obD, .lays rc tN "depth" "I",
  .fieldLink tN 13 tN "UNASSIGNED_STACK" steD, .laysStatic tN "UNASSIGNED_STACK" steD, .fieldLink tN 20 tN "SUPPRESSED_SENTINEL" listD, .laysStatic tN "SUPPRESSED_SENTINEL" listD,
  .declares tFill, .selects rc tFill tFill, .selects rc tFill0 tFill0, .arrayOver (.object "java/lang/Object"), .soleField tN "backtrace", .soleField tN "depth"]
theorem fw_ok {rc : String} : (fw rc).all xOk = true := rfl
theorem fw_at {Z s : State} {a0 args : Array Value} {rc : String} (hT : ThS Z s.heap) (hZ : Z.Warmed39 s.vm) (W : ∀ d ∈ fw rc, d.before a0 Z = true) : ∀ d ∈ fw rc, d.before args s = true :=
  fun d hd => mvX hT hZ (List.all_eq_true.mp fw_ok d hd) (W d hd)
/-- what the library's law of the filling asks of the tables, out of these words -/
theorem tc_made {args : Array Value} {s : State} {pl : Platform} {rc : String} (h1 : pl.frameOwnsMonitors = true) (h2 : pl.finalization = false) (h3 : pl.magicAccessors = ({} : Platform).magicAccessors) (W : ∀ d ∈ fw rc, d.before args s = true) :
    ∃ T : ThrowableC, T.Links pl s ∧ s.vm.findClass tN = some T.cT ∧ s.methodNamed? tFill = some T.fill ∧ s.methodNamed? tFill0 = some T.fill0 ∧
      (∃ i, s.fieldFound? tN "stackTrace" steD = some (T.cT, T.kT, i, T.fStack)) ∧ T.fStack.type = .array (.object "java/lang/StackTraceElement") ∧ ∃ i, s.fieldFound? tN "UNASSIGNED_STACK" steD = some (T.cT, T.kT, i, T.fUnassigned) := by
  have w : ∀ (k : Nat) {d : Cond}, (fw rc)[k]? = some d → d.holds args s none s [] = true := fun k d h => W d (List.mem_of_getElem? h)
  obtain ⟨⟨c, iN⟩, mN, nN, mmN, natN, cdN, lkN, sgN⟩ := Cond.native_spec (w 5 rfl)
  have hc : s.vm.findClass tN = some c := findClass_of_methodNamed nN
  obtain ⟨k, hk, hnm⟩ := Vm.findClass_spec hc
  obtain ⟨_, _, _, _, hk1, _, _, _, _, hni⟩ := Cond.superclass_spec hc (w 1 rfl)
  cases hk.symm.trans hk1
  obtain ⟨iF, mF, nF, mmF, atF, stF, abF, -, -⟩ := Cond.ownMethod (x := tFill) hc hk (w 2 rfl)
  obtain ⟨_, cF, q1, cdF, byF, loF, rtF, lkF, -, sgF⟩ := Cond.codeSync_spec nF (w 3 rfl)
  cases mmF.symm.trans q1
  obtain ⟨iN2, _, nN2, mmN2, atN, stN, abN, nmN, dsN⟩ := Cond.ownMethod (x := tFill0) hc hk (w 4 rfl)
  obtain rfl : iN = iN2 := by simpa using Option.some.inj (nN.symm.trans nN2)
  cases mmN.symm.trans mmN2
  obtain ⟨mO, mtO, nO, mmO, stO, abO⟩ := Cond.instanceMethod_spec (w 6 rfl)
  obtain ⟨_, cO, q2, cdO, byO, -, -, lkO, -, sgO⟩ := Cond.code_spec nO (w 7 rfl)
  cases mmO.symm.trans q2
  obtain ⟨kO, hkO, nkO⟩ := Vm.findClass_spec (findClass_of_methodNamed nO)
  obtain ⟨nmO, dsO⟩ := name_of_methodNamed nO mmO
  obtain ⟨ci1, n1, cf, l1, r1, hcf, p1⟩ := Cond.linkedMethod hc hk nO (w 8 rfl) pl h3
  obtain ⟨ci27, n27, _, l27, r27, hcf2, p27⟩ := Cond.linkedMethod hc hk nF (w 9 rfl) pl h3
  cases hcf.symm.trans hcf2
  obtain ⟨ci202, n202, _, l202, r202, hcf3, p202⟩ := Cond.linkedMethod hc hk nN (w 10 rfl) pl h3
  cases hcf.symm.trans hcf3
  obtain ⟨ci7, i7, f7, k7, g7, a7, s7, x7, n7, t7, ff7⟩ := Cond.ownField (t := .object tN) hc hk (by decide +kernel) (w 11 rfl) (w 15 rfl) pl h3
  obtain ⟨ci17, i17, f17, k17, g17, a17, s17, x17, n17, t17, ff17⟩ := Cond.ownField (t := .array (.object "java/lang/StackTraceElement")) hc hk (by decide +kernel) (w 12 rfl) (w 16 rfl) pl h3
  obtain ⟨ci24, i24, f24, k24, g24, a24, s24, x24, n24, t24, ff24⟩ := Cond.ownField (t := .object "java/util/List") hc hk (by decide +kernel) (w 13 rfl) (w 17 rfl) pl h3
  obtain ⟨ci13, i13, f13, aS, _, k13, g13, a13, s13, -, -, hst, -, -, -, -, ff13⟩ := Cond.ownStatic (t := .array (.object "java/lang/StackTraceElement")) hc hk (by decide +kernel) (w 21 rfl) (w 22 rfl) pl h3
  obtain ⟨ci20, i20, f20, _, _, k20, g20, a20, s20, -⟩ := Cond.ownStatic (t := .object "java/util/List") hc hk (by decide +kernel) (w 23 rfl) (w 24 rfl) pl h3
  obtain ⟨cR, kR, _, _, _, fM, hcR, hkR, -, sM, xM, -⟩ := Cond.lays_spec (w 18 rfl)
  obtain ⟨-, d17, e17, en17⟩ := Cond.laysAt hcR hkR ff17 (w 16 rfl)
  obtain ⟨-, d24, e24, en24⟩ := Cond.laysAt hcR hkR ff24 (w 17 rfl)
  have hap := Cond.laysApart e17 e24 en17 en24 (by rw [n17, n24]; decide)
  have pF : mF.sig.parameters = [] := by
    rw [show parseMethodDescriptor tFill.desc = some ⟨[], some (.object tN)⟩ by decide +kernel] at sgF
    rw [← Option.some.inj sgF]
  have pN : mN.sig.parameters = [.int] := by
    rw [show parseMethodDescriptor tFill0.desc = some ⟨[.int], some (.object tN)⟩ by decide +kernel] at sgN
    rw [← Option.some.inj sgN]
  have pO : mtO.sig.parameters.length = 0 := by
    rw [show parseMethodDescriptor oInit.desc = some ⟨[], none⟩ by decide +kernel] at sgO
    rw [← Option.some.inj sgO]; rfl
  have bt0 := Vm.findClass_boot hc hk
  have ini := Cond.initialized_spec hc hk (w 0 rfl)
  have lkp : lookupSpecial s.vm mO.cls "<init>" mtO.desc = .method mO := by rw [dsO]; exact lookupSpecial_of_named nO mmO stO
  refine ⟨{ cT := c, kT := k, cO := c, aS := aS, fillIdx := iF, fill0Idx := iN, initSIdx := iF, obj := mO, kObj := kO, methFill := mF, methFill0 := mN, methInitS := mF, methObj := mtO, codeFill := cF, codeInitS := cF, codeObj := cO, fBack := f7, fDepth := f7, fStack := f17, fCause := f7, fSupp := f24, fMsg := fM, fUnassigned := f13, fSentinel := f20, cfT := cf, ci1 := ci1, n1 := n1, ci27 := ci27, n27 := n27, ci202 := ci202, n202 := n202, ci7 := ci7, i7 := i7, ci13 := ci13, i13 := i13, ci17 := ci17, i17 := i17, ci20 := ci20, i20 := i20, ci24 := ci24, i24 := i24 }, ?_, hc, nF, nN, ⟨i17, ff17⟩, t17, i13, ff13⟩
  constructor <;> assumption
section Rules
variable {K : Cxt} {l : Launch} {Z : State} {a0 : Array Value} {EL : List (String × Nat)} {nw : Bool} {y : MethodName} {bytes : ByteArray} {maxL : Nat} {ret : Option FieldType} {rm : Room} {G : Option Value → List Item → Prop} {B : Prog} {cells slots pc j : Nat} {L : List Item} {ls : List Slot} {st : List Value}
theorem wp_fill (C : Cx K l Z a0 EL nw y bytes maxL ret rm G B) (hKn : Kn K) (hl : l.stackTraces = true) {n W fb fs fm : Nat} {a ua : Addr} {Kc : Kd} {vs : List Value} {v : Value} (j pc' i : Nat) (hi : B[j]? = some (pc, .invokevirtual 27, 3)) (hp : pc + 3 = pc') (hy : y.cls = tN) (WW : ∀ d ∈ fw Kc.1, d.before a0 Z = true) (wi : (Cond.instantiable Kc.1 n).before a0 Z = true)
    (SU : Sta Z Z.heap tN "UNASSIGNED_STACK" steD (.ref ua)) (hL : L[i]? = some (a, true, .inl Kc, vs)) (hb1 : Kc.2[fb]? = some (tN, "backtrace", obD)) (hb2 : vs[fb]? = some .null) (hs1 : Kc.2[fs]? = some (tN, "stackTrace", steD)) (hs2 : vs[fs]? = some (.ref ua)) (hm1 : Kc.2[fm]? = some (tN, "detailMessage", msgD)) (hm2 : vs[fm]? = some v)
    {L' : List Item} (hL' : L.set i (a, true, .inl (Kc.1, [(tN, "detailMessage", msgD)]), [v]) = L') (hf : 3 ≤ rm.frames) (hW : (st.map fun v => v.category).sum = W) (hlo : W + 42 ≤ rm.locals) (hls : ls.length = maxL)
    {cells' slots' : Nat} (hc : cells + 1 = cells') (hsl : slots + 2752 = slots') (hc' : cells' ≤ rm.cells) (hs' : slots' ≤ rm.slots) (k : Wp K cells' slots' L' pc' ls (.ref a :: st)) : Wp K cells slots L pc ls (.ref a :: st) := by
  subst hp hL' hc hsl
  have C' := C
  obtain ⟨p, e, s, m, args, below, meth, c, F, rfl, hx, hb, hml, hret, hlk, hown, hnm, hEL, hB⟩ := C
  intro vm0 k0 T locs X hS hk hn hZ hF hg hH
  have hown' : (s.setVm vm0).vm.findClass tN = some m.cls := by rw [← hy, show (s.setVm vm0).vm = vm0 from rfl, hS.1.alike.findClass]; exact hown
  have WS : ∀ d ∈ fw Kc.1, d.before args (s.setVm vm0) = true := fw_at (ThS.ext hKn.2.2 ThS.start) hZ WW
  have w : ∀ (k : Nat) {d : Cond}, (fw Kc.1)[k]? = some d → d.before args (s.setVm vm0) = true := fun k d h => WS d (List.mem_of_getElem? h)
  have hO := hH.obj (app_at (F := F) hL)
  obtain ⟨cell, u1, u2, u3⟩ := hH.unt (app_at (F := F) hL)
  have htr : e.platform.stackTraces = true := by rw [X.admits.platform]; exact hl
  have howns : e.platform.frameOwnsMonitors = true := by rw [X.admits.platform]
  have hfin : e.platform.finalization = false := by rw [X.admits.platform]
  have hpl : e.platform.magicAccessors = ({} : Platform).magicAccessors := by rw [X.admits.platform]
  obtain ⟨TT, LL, hcT, nF, nN, ⟨iS, ffS⟩, tS, iU, ffU⟩ := tc_made (args := args) howns hfin hpl WS
  obtain ⟨_, kX, e1, e2, e3, -, e5⟩ := hO.1
  cases u1.symm.trans e1
  obtain ⟨_, _, z1, z2, ord, -⟩ := Cond.instantiable_spec wi
  cases e2.symm.trans z1
  cases e3.symm.trans z2
  have hfX : (s.setVm vm0).vm.findClass Kc.1 = some cell.cls := by rw [show (s.setVm vm0).vm = vm0 from rfl, hZ.alike.findClass]; exact e2
  obtain ⟨kX', hkX, ek⟩ := hZ.alike.2.2 _ _ e3
  have ord' : kX'.kind = .ordinary := by rw [ek]; exact ord
  have siz : cell.slots.size = kX'.instanceTypes.size := by rw [ek]; exact e5 ord
  have tk : ∀ {f : Field} {v : Value}, kX'.instanceTypes[f.slot]? = some f.type → fits f.type v = true → Jvm.Takes (s.setVm vm0) cell f v := fun {f v} q1 q2 => by
    obtain ⟨r1, r2⟩ := Takes.of_laid (s := s.setVm vm0) (c := cell.cls) (v := v) hkX ord' q1 q2
    exact ⟨by rw [siz]; simpa using r1, by rw [u2]; exact r2⟩
  have ride : ∀ {n d : String} {cf i : Nat} {k : Class} {f : Field}, Z.fieldFound? tN n d = some (cf, k, i, f) → ∃ k', (s.setVm vm0).fieldFound? tN n d = some (cf, k', i, f) ∧ k'.statics = k.statics := fun {n d cf i k f} q => by
    obtain ⟨k', q1, q2⟩ := State.fieldFound?_setVm (s := Z) hZ.alike q
    exact ⟨k', q1, by rw [q2]⟩
  obtain ⟨ci198, i198, fB, k198, g198, a198, sB, -, nB, tB, ffB⟩ := Cond.ownField (t := .object "java/lang/Object") hcT LL.cls (by decide +kernel) (w 14 rfl) (w 19 rfl) e.platform hpl
  obtain ⟨_, _, cD, kD, iD, fD, -, -, ffD, sD, -⟩ := Cond.lays_spec (w 20 rfl)
  cases Option.some.inj ((Cond.lays_declared (w 20 rfl) ffD).symm.trans hcT)
  obtain ⟨hkD, atD⟩ := State.fieldFound?_spec ffD
  cases Option.some.inj (hkD.symm.trans LL.cls)
  obtain ⟨nD, tD⟩ := State.fieldFound?_type ffD (t := .int) (by decide +kernel)
  have hfb := Cond.soleField_find hcT LL.cls (w 29 rfl) a198 nB sB
  have hfd := Cond.soleField_find hcT LL.cls (w 30 rfl) atD nD sD
  obtain ⟨comp, cO, kO, -, -, hkO, hkindO, hOO⟩ := Cond.arrayOver_spec (w 28 rfl)
  obtain ⟨tyS, dS, hdS, hdnS⟩ := Cond.laysAt hfX hkX ffS (w 16 rfl)
  obtain ⟨tyB, dB, hdB, hdnB⟩ := Cond.laysAt hfX hkX ffB (w 19 rfl)
  obtain ⟨tyD, dD, hdD, hdnD⟩ := Cond.laysAt hfX hkX ffD (w 20 rfl)
  have hsel0 : selectMethod e.platform (s.setVm vm0).vm cell.cls TT.fill0 = .method TT.fill0 := by
    obtain ⟨_, _, _, q1, q2, q3, q4, -⟩ := Cond.selects_spec (w 27 rfl)
    cases hfX.symm.trans q1
    cases (State.methodFound?_of_named nN (by decide)).symm.trans q2
    cases nN.symm.trans q3
    rw [Launch.admits_selectMethod X.admits]; exact q4
  obtain ⟨cl1, cf1, kk1, i1, f1, v1, v2, -, -, -, -, v7⟩ := hO.2 fs _ _ hs1 hs2
  cases u1.symm.trans v1
  obtain ⟨_, v3, -⟩ := ride v2
  cases ffS.symm.trans v3
  obtain ⟨cl2, cf2, kk2, i2, f2, b1, b2, -, -, -, -, b7⟩ := hO.2 fb _ _ hb1 hb2
  cases u1.symm.trans b1
  obtain ⟨_, b3, -⟩ := ride b2
  cases ffB.symm.trans b3
  obtain ⟨cf3, i3, k3, f3, st3, cellS, c1, c2, c3, c4, c5, c6, c7⟩ := SU.ext hH.1
  obtain ⟨k4, c8, c9⟩ := ride c1
  cases ffU.symm.trans c8
  have ea : st3 = TT.aS := Option.some.inj ((c4.symm.trans (c9.symm)).trans LL.statics)
  subst ea
  have hneS : TT.aS ≠ a := fun q => by
    rw [q, u1] at c5
    cases c5
    rw [u2] at c6; cases c6
  have hknS : cellS.vm ≠ .unknown := fun q => by rw [q] at c6; cases c6
  obtain ⟨_, vm1, ⟨U, Lo, kc, ks⟩, -, X', ⟨rfl, vm', lines, hln, -, hU, e1', e2', e3'⟩, stp⟩ := X.virtualBack hx (own := tN) (C := Kc.1) (index := 27) (y := tFill) (z := tFill) hown' (w 9 rfl) (w 25 rfl) (notFace_of_selects (w 26 rfl)) (w 26 rfl) (w 2 rfl) (by decide)
    (fillPays (l := l) (R := rm) (W := W) (sargs := args) hx htr TT LL nF (u0 := ⟨.ref ua, rfl⟩) (by simp) (self := a) (cell := cell) (cellS := cellS) (fun _ => by rw [u2]; simp) (by rw [u2]; simp) (by rw [u3]) (by rw [u3]) v7 hsel0 hneS hknS c7 (tk tyS (by rw [tS]; rfl))
      ⟨{ ci198 := ci198, i198 := i198, fBack := fB }, ⟨k198, g198, a198, sB⟩, b7⟩ (Vm.MethodsKnown.alikeC hS.1.alike hKn.1) (Vm.FramesKnown.alikeC hS.1.alike hKn.2.1) hcT hOO hkO hkindO hfb hfd (fun x => tk tyB (by rw [tB]; rfl)) (fun x => tk tyD (by rw [tD]; rfl)) (by omega) hlo)
    (b := a) (cB := cell.cls) hfX ⟨cell, u1, rfl, by rw [u2]; rfl⟩ (g := mkF m pc ls.toArray (.ref a :: st)) rfl (sz hml hls) (Steps.refl _) (argsL := []) (rest := st)
    (fun sig h => by rw [show parseMethodDescriptor tFill.desc = some ⟨[], some (.object tN)⟩ from by decide +kernel] at h; rw [← Option.some.inj h]; rfl) rfl (by show 2 * 0 + _ ≤ _; omega) (C'.dec hi hb)
    (fun vmx _ => ⟨rfl, hc', hs', u1, c5⟩)
  dsimp only [Pt.U, Pt.locs, Pt.cells, Pt.slots] at X' hU e1' e2' e3' stp
  subst e1' e2' e3'
  have hlt : a < T.heap.size := (Array.getElem?_eq_some_iff.mp u1).1
  have hh : U.heap = (T.heap.push (traceHolder cO lines)).setIfInBounds a (filledOn TT.toThrowableT fB fD cell ⟨.ref ua, rfl⟩ T.heap.size lines.length.toInt32) := by rw [hU]; rfl
  have hat : U.heap[a]? = some (filledOn TT.toThrowableT fB fD cell ⟨.ref ua, rfl⟩ T.heap.size lines.length.toInt32) := by rw [hh]; simp [Nat.lt_succ_of_lt hlt]
  have hoth : ∀ (x : Addr) (cx : Cell), T.heap[x]? = some cx → x ≠ a → U.heap[x]? = some cx := fun x cx q ne => by
    rw [hh, Array.getElem?_setIfInBounds_ne (Ne.symm ne), Array.getElem?_push_lt (Array.getElem?_eq_some_iff.mp q).1]
    exact congrArg some (Array.getElem?_eq_some_iff.mp q).2
  have hK1 : Keep T.heap U.heap [a] := ⟨by rw [hh]; simp, fun x cx q ne => hoth x cx q (by simpa using ne), fun x cx q => by
    by_cases z : x = a
    · subst z
      cases u1.symm.trans q
      exact ⟨_, hat, rfl, rfl, by simp [filledOn, Cell.setSlot]⟩
    · exact ⟨cx, hoth x cx q z, rfl, rfl, rfl⟩⟩
  obtain ⟨cl5, cf5, kk5, i5, f5, m1, m2, m3, m4, m5, m6, m7⟩ := hO.2 fm _ _ hm1 hm2
  cases u1.symm.trans m1
  obtain ⟨k5', m8, -⟩ := ride m2
  obtain ⟨tyM, dM, hdM, hdnM⟩ := Cond.laysAt hfX hkX m8 (w 18 rfl)
  have nM := (State.fieldFound?_type m8 (t := .object "java/lang/String") (by decide +kernel)).1
  have nS := (State.fieldFound?_type ffS (t := .array (.object "java/lang/StackTraceElement")) (by decide +kernel)).1
  have mB := Cond.laysApart hdM hdB hdnM hdnB (by rw [nM, nB]; decide)
  have mD := Cond.laysApart hdM hdD hdnM hdnD (by rw [nM, nD]; decide)
  have mS := Cond.laysApart hdM hdS hdnM hdnS (by rw [nM, nS]; decide)
  have I : It Z U.heap (a, true, .inl (Kc.1, [(tN, "detailMessage", msgD)]), [v]) := ⟨⟨(hO.1 : Exa Z T.heap a Kc.1).keep hK1, fun q f u hf' hv => by
    match q, hf', hv with
    | 0, hf', hv =>
      cases hf'; cases hv
      exact ⟨_, cf5, kk5, i5, f5, hat, m2, m3, by show cell.vm ≠ _; exact m4, by show cell.vm.isStatics = false; exact m5, by show Z.vm.assignable cell.cls cf5 = true; exact m6, by simp [filledOn, Cell.setSlot, Ne.symm mB, Ne.symm mD, Ne.symm mS]; exact m7⟩⟩, fun _ => ⟨_, hat, u2, u3⟩⟩
  have hH' := hH.keepO (app_at (F := F) hL) hK1 I
  rw [app_set hL] at hH'
  have hsz := traceHolder_size_le cO hln
  have hz := (hH.new (app_at (F := F) hL)).1
  obtain ⟨t, o, q1, q2⟩ := k vm0 k0 U _ (stand_mono X' (Nat.le_refl _) (Nat.add_le_add_left hsz _)) hS (Nat.le_trans hk hK1.1) hn hZ (Fr.app hF (fun y hy => by simp only [List.mem_cons, List.not_mem_nil, or_false] at hy; rcases hy with rfl | rfl | rfl <;> exact hz)) (Nat.le_trans hg hK1.1) hH'
  exact ⟨t, o, stp.trans q1, q2⟩
/-- a constructor with a contract of this kind -/
theorem wp_initK (C : Cx K l Z a0 EL nw y bytes maxL ret rm G B) (hKn : Kn K) {y' : MethodName} {by' : ByteArray} {ml ix : Nat} {rm' : Room} {a : Addr} {al rest : List Value} {ps : List FieldType} {L0 L1 : List Item} {G' : Option Value → List Item → Prop} {W : Nat} (j pc' : Nat)
    (hM : CtK l Z EL nw y' by' ml none [] rm' (.ref a :: al) L0 G') (hi : B[j]? = some (pc, .invokespecial ix, 3)) (hpc : pc + 3 = pc') (lk : (Cond.methodLink y.cls ix y').before a0 Z = true) (wi : (Cond.instanceMethod y').before a0 Z = true) (wc : (Cond.code y' by' ml none).before a0 Z = true) (wz : (Cond.initialized y'.cls).before a0 Z = true)
    (hn1 : y'.name = "<init>") (hy : y'.cls ≠ "java/lang/invoke/MethodHandle" ∧ y'.cls ≠ "java/lang/invoke/VarHandle") (hd : parseMethodDescriptor y'.desc = some ⟨ps, none⟩) (hlen : al.length = ps.length) (hst : st = al.reverse ++ .ref a :: rest) (hW : (rest.map fun v => v.category).sum = W) (hls : ls.length = maxL)
    (hf : rm'.frames + 1 ≤ rm.frames) (hl : W + (ml + 11) + rm'.locals ≤ rm.locals) (hL : L = L0 ++ L1) {cells' slots' : Nat} (hc : cells + rm'.cells = cells') (hsl : slots + rm'.slots = slots') (hc' : cells' ≤ rm.cells) (hs' : slots' ≤ rm.slots) (k : ∀ v L', G' v L' → Wp K cells' slots' (L' ++ L1) pc' ls (v.toList ++ rest)) : Wp K cells slots L pc ls st := by
  subst hpc hc hsl hL
  have C' := C
  obtain ⟨p, e, s, m, args, below, meth, c, F, rfl, hx, hb, hml, hret, hlk, hown, hnm, hEL, hB⟩ := C
  intro vm0 k0 T locs X hS hk hn hZ hF hg hH
  have hown' : (s.setVm vm0).vm.findClass y.cls = some m.cls := by rw [show (s.setVm vm0).vm = vm0 from rfl, hS.1.alike.findClass]; exact hown
  obtain ⟨v, vm₁, ⟨U, Lo, kc, ks⟩, hW1, X', hS', hgr, ⟨Lc, L', hG', hH', hFr, hn', e1, e2, e3⟩, hst⟩ := X.specialBackS hx hn1 hown' (mvT (s := s.setVm vm0) hZ lk) (mvT (s := s.setVm vm0) hZ wi) (mvT (s := s.setVm vm0) hZ wc) hy
    (ct_backK (len := 3) (W := W) (F := L1 ++ F) (s := s) (args := args) hM hZ wc wz hf hl hEL (by rw [← List.append_assoc]; exact hH) (Vm.MethodsKnown.alikeC hS.1.alike hKn.1) (Vm.FramesKnown.alikeC hS.1.alike hKn.2.1)) (g := mkF m pc ls.toArray st) rfl (sz hml hls) (Steps.refl _) (a := a) (argsL := al) (rest := rest) (lenOf hd hlen) hst (by show 2 * 0 + _ ≤ _; omega) (C'.dec hi hb) (fun vm₁ _ => ⟨rfl, rfl, hc', hs'⟩)
  dsimp only [Pt.U, Pt.locs, Pt.cells, Pt.slots] at X' hS' hgr hH' hn' e1 e2 e3 hst
  subst e1 e2 e3
  obtain ⟨t, o, h1, h2⟩ := k v L' hG' U.vm U.heap.size U (locs ++ Lc) X' (hS.trans hS' (Nat.le_trans hk hgr)) (Nat.le_refl _) (fun q => State.WarmedH.trans (t := s.setVm vm0) (hn q) (State.WarmedH.trans (t := T.setVm vm₁) hW1 (hn' q))) (State.Warmed39.trans (t := s.setVm vm0) hZ hS'.1) (Fr.app hF hFr) (Nat.le_trans hg hgr) (by rw [List.append_assoc]; exact hH')
  exact ⟨t, o, hst.trans h1, h2⟩
end Rules
end Jvm.Wk
namespace Jvm.Wk
open Jvm.RoadKit
/-! PLAIN: chars and bytes -/
abbrev bt (c : Int32) : Value := .int c.toInt8.toInt32
def Lat (cs : List Int32) : Prop := ∀ c ∈ cs, 0 ≤ c.toInt ∧ c.toInt ≤ 255
theorem b8 (x : Int32) : x.toInt8.toInt32.toInt8.toInt32 = x.toInt8.toInt32 := by simp
theorem len32 {n : Int32} {k : Nat} (h : n.toInt = k) : k.toInt32 = n := by
  have r := rng32 n
  apply Int32.toInt_inj.mp
  rw [h]
  exact len_toInt (by omega)
theorem fill_set {d : List Int32} {n : Nat} {c : Int32} : (d.map bt ++ List.replicate (n + 1) (Value.int 0)).set d.length (bt c) = (d ++ [c]).map bt ++ List.replicate n (Value.int 0) := by
  rw [List.replicate_succ]
  have : d.length = (d.map bt).length := by simp
  rw [this, List.set_append_right _ _ (Nat.le_refl _)]
  simp
theorem bt_inj {x z : Int32} (hx : 0 ≤ x.toInt ∧ x.toInt ≤ 255) (hz : 0 ≤ z.toInt ∧ z.toInt ≤ 255) (h : x.toInt8.toInt32 = z.toInt8.toInt32) : x = z := by
  have h1 := c_i2b x
  have h2 := c_i2b z
  rw [h] at h1
  apply Int32.toInt_inj.mp
  generalize z.toInt8.toInt32 = w at *
  omega
theorem chr_at {d r : List Int32} {c : Int32} : ((d ++ c :: r).map Value.int)[d.length]? = some (.int c) := by simp
theorem coder0 (n : Int32) : nar .byte ((ush (n - n) 31).toInt8.toInt32) = 0 := by rw [Int32.sub_self]; decide +kernel
theorem lat_and (x : Int32) : 0 ≤ (x &&& 255).toInt ∧ (x &&& 255).toInt ≤ 255 := by
  have h := c_and x 255 (by decide)
  rw [show (255 : Int32).toInt = 255 from rfl] at h
  exact h
theorem nar_chr {k : Int32} (h : 0 ≤ k.toInt ∧ k.toInt ≤ 65535) : nar .char k = k := by
  have e := c_i2c k
  apply Int32.toInt_inj.mp
  show (k.toUInt32.toUInt16.toUInt32.toInt32).toInt = k.toInt
  generalize k.toUInt32.toUInt16.toUInt32.toInt32 = z at *
  omega
theorem nar_c (x : Int32) : nar .char ((x &&& 255 : Int32).toUInt32.toUInt16.toUInt32.toInt32) = x &&& 255 := by
  rw [i2c_mask]; exact i2c_mask x
end Jvm.Wk
namespace Jvm.Pilot.@@N@@
open Jvm Jvm.ClassFile Sem Op Lib Jvm.Free Jvm.Stand Jvm.LawKit Jvm.RoadKit Jvm.Wk Bundle Jvm.Pilot.@@N@@.Jvm.D
theorem wd {ts : List Jvm.Cond} {Z : State} {a0 : Array Value} (hw : ∀ d ∈ ts, d.before a0 Z = true) (k : Nat) {d : Jvm.Cond} (h : ts[k]? = some d) : d.before a0 Z = true := hw d (List.mem_of_getElem? h)
abbrev EL1 : List (String × Nat) := [("com/example/remitter/remitter/ConfigException", 19), ("com/example/remitter/remitter/ConfigException", 25)]
abbrev nw1 : Bool := false
theorem ew1 {Z : State} {a0 : Array Value} (hw : ∀ d ∈ tables_1, d.before a0 Z = true) : EW Z a0 EL1 := EW.cons (wd hw 57 rfl) (by decide) (EW.cons (wd hw 107 rfl) (by decide) (EW.nil))
theorem sat {Z : State} {a0 : Array Value} (hw : ∀ d ∈ tables_1, d.before a0 Z = true) : ∀ a ∈ Bundle.stringAtoms, a.before a0 Z = true := by
  intro a ha
  simp only [Bundle.stringAtoms, List.mem_cons, List.not_mem_nil, or_false] at ha
  rcases ha with rfl | rfl | rfl | rfl | rfl | rfl | rfl
  · exact wd hw 2 rfl
  · exact wd hw 1 rfl
  · exact wd hw 19 rfl
  · exact wd hw 29 rfl
  · exact wd hw 27 rfl
  · exact wd hw 58 rfl
  · exact wd hw 59 rfl
theorem shr0 (n : Int32) : n >>> ((0 : Int32) &&& 31) = n := by
  rw [show ((0 : Int32) &&& 31) = 0 from rfl]; simp
theorem and255 : ∀ n : Fin 256, ((Int32.ofNat n.val).toInt8.toInt32 &&& 255) = Int32.ofNat n.val := by decide +kernel
theorem bt_back {c : Int32} (h : 0 ≤ c.toInt ∧ c.toInt ≤ 255) : c.toInt8.toInt32 &&& 255 = c := by
  obtain ⟨n, hn⟩ := Int.eq_ofNat_of_zero_le h.1
  have e : c = Int32.ofNat n := by
    apply Int32.toInt_inj.mp
    rw [hn, Int32.toInt_ofNat_of_lt (by omega)]
  have := and255 ⟨n, by omega⟩
  rw [e]; exact this
def mn (x z : Int32) : Int32 := if x.toInt ≤ z.toInt then x else z
def mx (x z : Int32) : Int32 := if z.toInt ≤ x.toInt then x else z
theorem mn_right {x z : Int32} (h : z.toInt ≤ x.toInt) : mn x z = z := by
  unfold mn; split
  · exact Int32.toInt_inj.mp (by omega)
  · rfl
theorem mm4 {p q : Int32} (hp : 0 ≤ p.toInt ∧ p.toInt ≤ 4) (hq : 0 ≤ q.toInt ∧ q.toInt ≤ 4) : ∃ s e : Nat, (mn p q).toInt = s ∧ (mx p q).toInt = e ∧ s ≤ e ∧ e ≤ 4 := by
  refine ⟨(mn p q).toInt.toNat, (mx p q).toInt.toNat, ?_⟩
  unfold mn mx
  split <;> split <;> omega
theorem rem5 {x : Int32} (h : 0 ≤ x.toInt) : 0 ≤ (x % 5).toInt ∧ (x % 5).toInt ≤ 4 := by
  rw [Int32.toInt_mod, show (5 : Int32).toInt = 5 from rfl, Int.tmod_eq_emod_of_nonneg h]
  omega
theorem slice_at {α : Type} {cs : List α} {s k i : Nat} (hi : i < k) : ((cs.drop s).take k)[i]? = cs[s + i]? := by
  rw [List.getElem?_take_of_lt hi, List.getElem?_drop]
theorem slice_len {α : Type} {cs : List α} {s k : Nat} (h : s + k ≤ cs.length) : ((cs.drop s).take k).length = k := by
  simp; omega
theorem slice_all {α : Type} {cs : List α} : (cs.drop 0).take cs.length = cs := by simp
theorem slice_bt {cs : List Int32} {s k : Nat} {v : Value} : (List.replicate k v).take 0 ++ ((cs.map bt).drop s).take k ++ (List.replicate k v).drop (0 + k) = ((cs.drop s).take k).map bt := by simp [List.map_take, List.map_drop]
theorem ret_chr {c : Int32} (h : 0 ≤ c.toInt ∧ c.toInt ≤ 255) : nar .char ((c.toInt8.toInt32 &&& 255 : Int32).toUInt32.toUInt16.toUInt32.toInt32) = c := by rw [nar_c, bt_back h]
theorem lat_at {cs : List Int32} (h : Lat cs) {i : Nat} {c : Int32} (q : cs[i]? = some c) : 0 ≤ c.toInt ∧ c.toInt ≤ 255 := h c (List.mem_of_getElem? q)
theorem lat_slice {cs : List Int32} (h : Lat cs) {s k : Nat} : Lat ((cs.drop s).take k) := fun c hc => h c (List.mem_of_mem_drop (List.mem_of_mem_take hc))
def kS : Kd := ("java/lang/String", [("java/lang/String", "coder", "B"), ("java/lang/String", "value", "[B")])
theorem kS_ok {Z : State} {a0 : Array Value} (hw : ∀ d ∈ tables_1, d.before a0 Z = true) : KOk Z a0 kS := ⟨⟨⟨Or.inr (wd hw 27 rfl), by decide +kernel⟩, ⟨⟨Or.inr (wd hw 29 rfl), by decide +kernel⟩, trivial⟩⟩, by decide +kernel⟩
theorem kS_df : defs kS = [.int 0, .null] := by decide +kernel
theorem pn0 : plainFor (⟨"java/lang/StringUTF16", "compress", "([CI[BII)I"⟩ : MethodName) = true := by first | (refine plainFor_of_name ?_; simp [plainName, overriddenIn]; done) | (refine plainFor_of_name ?_; decide +kernel) | decide +kernel
def B_rm_cmp5 : Prog := [(0, .iconst 0, 1), (1, .istore 5, 2), (3, .iload 5, 2), (5, .iload 4, 2), (7, .if_icmp .ge 37, 3), (10, .aload_n 0, 1), (11, .iload_n 1, 1), (12, .caload, 1), (13, .istore 6, 2), (15, .iload 6, 2), (17, .sipush 255, 3), (20, .if_icmp .le 6, 3), (26, .aload_n 2, 1), (27, .iload_n 3, 1), (28, .iload 6, 2), (30, .i2b, 1), (31, .bastore, 1), (32, .iinc 1 1, 3), (35, .iinc 3 1, 3), (38, .iinc 5 1, 3), (41, .goto (-38), 3), (44, .iload 4, 2), (46, .ireturn, 1)]
theorem B_rm_cmp5_ok : okB jdk_52_method_21_code B_rm_cmp5 = true := by decide +kernel
set_option maxRecDepth 65536 in
set_option maxHeartbeats 40000000 in
theorem rm_cmp5 (l : Launch) (Z : State) (a0 : Array Value) (hw : ∀ d ∈ tables_1, d.before a0 Z = true) (ca b : Addr) (cs : List Int32) (n : Int32) (hlat : Lat cs) (hn : n.toInt = cs.length) : Ct l Z EL1 nw1 (⟨"java/lang/StringUTF16", "compress", "([CI[BII)I"⟩ : MethodName) jdk_52_method_21_code 7 (some .int) [] ({ frames := 0, cells := 0, slots := 0, locals := 0 } : Room) [.ref ca, .int 0, .ref b, .int 0, .int n] [(ca, true, .inr .char, cs.map Value.int), (b, true, .inr .byte, ([] : List Int32).map bt ++ List.replicate cs.length (.int 0))] (fun v L => v = some (.int n) ∧ L = [(ca, true, .inr .char, cs.map Value.int), (b, true, .inr .byte, cs.map bt)]) := by
  refine ct_of pn0 (B := B_rm_cmp5) (ls := [.val (.ref ca), .val (.int 0), .val (.ref b), .val (.int 0), .val (.int n), .unset, .unset]) B_rm_cmp5_ok (ew1 hw) (fun m => by first | (simp [entryFrame, mkF, argsToLocals, Value.category]; done) | rfl) (fun K C => ?_)
  have rn := rng32 n
  have loop : ∀ (m : Nat) (d r : List Int32) (i : Int32) (s6 : Slot), r.length = m → d ++ r = cs → i.toInt = d.length → (s6 = .unset ∨ ∃ q : Int32, s6 = .val (.int q)) →
      Wp K 0 0 [(ca, true, .inr .char, cs.map Value.int), (b, true, .inr .byte, d.map bt ++ List.replicate r.length (.int 0))] 3 [.val (.ref ca), .val (.int i), .val (.ref b), .val (.int i), .val (.int n), .val (.int i), s6] [] := by
    intro m
    induction m with
    | zero =>
      intro d r i s6 hm hdr hi ho
      obtain rfl := List.length_eq_zero_iff.mp hm
      rw [List.append_nil] at hdr
      subst hdr
      rcases ho with rfl | ⟨q, rfl⟩
      · refine wp_blk C 2 2 (pc' := 7) (ls' := [.val (.ref ca), .val (.int i), .val (.ref b), .val (.int i), .val (.int n), .val (.int i), .unset]) (st' := [.int n, .int i]) rfl ?_
        refine wp_icmp C 4 44 10 rfl rfl rfl (by decide) (fun _ => ?_) (fun h => absurd h (fun q : i.toInt < n.toInt => by omega))
        refine wp_blk C 21 1 (pc' := 46) (ls' := [.val (.ref ca), .val (.int i), .val (.ref b), .val (.int i), .val (.int n), .val (.int i), .unset]) (st' := [.int n]) rfl ?_
        exact wp_retI C 22 rfl (by decide) (by decide) (⟨rfl, by simp⟩)
      · refine wp_blk C 2 2 (pc' := 7) (ls' := [.val (.ref ca), .val (.int i), .val (.ref b), .val (.int i), .val (.int n), .val (.int i), .val (.int q)]) (st' := [.int n, .int i]) rfl ?_
        refine wp_icmp C 4 44 10 rfl rfl rfl (by decide) (fun _ => ?_) (fun h => absurd h (fun q : i.toInt < n.toInt => by omega))
        refine wp_blk C 21 1 (pc' := 46) (ls' := [.val (.ref ca), .val (.int i), .val (.ref b), .val (.int i), .val (.int n), .val (.int i), .val (.int q)]) (st' := [.int n]) rfl ?_
        exact wp_retI C 22 rfl (by decide) (by decide) (⟨rfl, by simp⟩)
    | succ m ih =>
      intro d r i s6 hm hdr hi ho
      obtain ⟨c, r, rfl⟩ : ∃ c r', r = c :: r' := by cases r with | nil => simp at hm | cons c r' => exact ⟨c, r', rfl⟩
      have hm : r.length = m := by simpa using hm
      have hlen : d.length + (r.length + 1) = cs.length := by rw [← hdr]; simp
      have hc := hlat c (by rw [← hdr]; simp)
      subst hdr
      rcases ho with rfl | ⟨q, rfl⟩
      · refine wp_blk C 2 2 (pc' := 7) (ls' := [.val (.ref ca), .val (.int i), .val (.ref b), .val (.int i), .val (.int n), .val (.int i), .unset]) (st' := [.int n, .int i]) rfl ?_
        refine wp_icmp C 4 44 10 rfl rfl rfl (by decide) (fun h => absurd h (fun q : n.toInt ≤ i.toInt => by omega)) (fun _ => ?_)
        refine wp_blk C 5 2 (pc' := 12) (ls' := [.val (.ref ca), .val (.int i), .val (.ref b), .val (.int i), .val (.int n), .val (.int i), .unset]) (st' := [.int i, .ref ca]) rfl ?_
        refine wp_aload C (n := d.length) (v := .int c) 7 13 0 rfl rfl (Or.inr (Or.inr (Or.inl ⟨rfl, rfl⟩))) rfl hi chr_at ?_
        refine wp_blk C 8 3 (pc' := 20) (ls' := [.val (.ref ca), .val (.int i), .val (.ref b), .val (.int i), .val (.int n), .val (.int i), .val (.int c)]) (st' := [.int 255, .int c]) rfl ?_
        refine wp_icmp C 11 26 23 rfl rfl rfl (by decide) (fun _ => ?_) (fun h => absurd h (fun q : (255 : Int32).toInt < c.toInt => by rw [show (255 : Int32).toInt = 255 from rfl] at q; omega))
        refine wp_blk C 12 4 (pc' := 31) (ls' := [.val (.ref ca), .val (.int i), .val (.ref b), .val (.int i), .val (.int n), .val (.int i), .val (.int c)]) (st' := [.int ((c : Int32).toInt8.toInt32), .int i, .ref b]) rfl ?_
        refine wp_stoB C (n := d.length) (vs' := (d ++ [c]).map bt ++ List.replicate r.length (.int 0)) (L' := [(ca, true, .inr .char, ((d ++ c :: r)).map Value.int), (b, true, .inr .byte, (d ++ [c]).map bt ++ List.replicate r.length (.int 0))]) 16 32 1 rfl rfl rfl hi (by simp) (by rw [b8]; exact fill_set) rfl ?_
        refine wp_blk C 17 3 (pc' := 41) (ls' := [.val (.ref ca), .val (.int (i + 1)), .val (.ref b), .val (.int (i + 1)), .val (.int n), .val (.int (i + 1)), .val (.int c)]) (st' := []) rfl ?_
        obtain ⟨i1, hi1⟩ : ∃ nn0 : Int32, nn0 = i + 1 := ⟨_, rfl⟩
        rw [← hi1]
        have Hi1 : i1.toInt = (d.length + 1 : Nat) := by rw [hi1]; exact addI hi one32
        refine wp_blk C 20 1 (pc' := 3) (ls' := [.val (.ref ca), .val (.int i1), .val (.ref b), .val (.int i1), .val (.int n), .val (.int i1), .val (.int c)]) (st' := []) rfl ?_
        have key := ih (d ++ [c]) r i1 (.val (.int c)) hm (by simp) (by rw [Hi1]; simp) (Or.inr ⟨_, rfl⟩)
        exact key
      · refine wp_blk C 2 2 (pc' := 7) (ls' := [.val (.ref ca), .val (.int i), .val (.ref b), .val (.int i), .val (.int n), .val (.int i), .val (.int q)]) (st' := [.int n, .int i]) rfl ?_
        refine wp_icmp C 4 44 10 rfl rfl rfl (by decide) (fun h => absurd h (fun q : n.toInt ≤ i.toInt => by omega)) (fun _ => ?_)
        refine wp_blk C 5 2 (pc' := 12) (ls' := [.val (.ref ca), .val (.int i), .val (.ref b), .val (.int i), .val (.int n), .val (.int i), .val (.int q)]) (st' := [.int i, .ref ca]) rfl ?_
        refine wp_aload C (n := d.length) (v := .int c) 7 13 0 rfl rfl (Or.inr (Or.inr (Or.inl ⟨rfl, rfl⟩))) rfl hi chr_at ?_
        refine wp_blk C 8 3 (pc' := 20) (ls' := [.val (.ref ca), .val (.int i), .val (.ref b), .val (.int i), .val (.int n), .val (.int i), .val (.int c)]) (st' := [.int 255, .int c]) rfl ?_
        refine wp_icmp C 11 26 23 rfl rfl rfl (by decide) (fun _ => ?_) (fun h => absurd h (fun q : (255 : Int32).toInt < c.toInt => by rw [show (255 : Int32).toInt = 255 from rfl] at q; omega))
        refine wp_blk C 12 4 (pc' := 31) (ls' := [.val (.ref ca), .val (.int i), .val (.ref b), .val (.int i), .val (.int n), .val (.int i), .val (.int c)]) (st' := [.int ((c : Int32).toInt8.toInt32), .int i, .ref b]) rfl ?_
        refine wp_stoB C (n := d.length) (vs' := (d ++ [c]).map bt ++ List.replicate r.length (.int 0)) (L' := [(ca, true, .inr .char, ((d ++ c :: r)).map Value.int), (b, true, .inr .byte, (d ++ [c]).map bt ++ List.replicate r.length (.int 0))]) 16 32 1 rfl rfl rfl hi (by simp) (by rw [b8]; exact fill_set) rfl ?_
        refine wp_blk C 17 3 (pc' := 41) (ls' := [.val (.ref ca), .val (.int (i + 1)), .val (.ref b), .val (.int (i + 1)), .val (.int n), .val (.int (i + 1)), .val (.int c)]) (st' := []) rfl ?_
        obtain ⟨i1, hi1⟩ : ∃ nn0 : Int32, nn0 = i + 1 := ⟨_, rfl⟩
        rw [← hi1]
        have Hi1 : i1.toInt = (d.length + 1 : Nat) := by rw [hi1]; exact addI hi one32
        refine wp_blk C 20 1 (pc' := 3) (ls' := [.val (.ref ca), .val (.int i1), .val (.ref b), .val (.int i1), .val (.int n), .val (.int i1), .val (.int c)]) (st' := []) rfl ?_
        have key := ih (d ++ [c]) r i1 (.val (.int c)) hm (by simp) (by rw [Hi1]; simp) (Or.inr ⟨_, rfl⟩)
        exact key
  refine wp_blk C 0 2 (pc' := 3) (ls' := [.val (.ref ca), .val (.int 0), .val (.ref b), .val (.int 0), .val (.int n), .val (.int 0), .unset]) (st' := []) rfl ?_
  exact loop cs.length [] cs 0 _ rfl rfl rfl (Or.inl rfl)
theorem pn1 : plainFor (⟨"java/lang/StringUTF16", "compress", "([CII)[B"⟩ : MethodName) = true := by first | (refine plainFor_of_name ?_; simp [plainName, overriddenIn]; done) | (refine plainFor_of_name ?_; decide +kernel) | decide +kernel
theorem pd0 : parseMethodDescriptor "([CI[BII)I" = some ⟨[(.array .char), .int, (.array .byte), .int, .int], (some .int)⟩ := by decide +kernel
def B_rm_cmp3 : Prog := [(0, .iload_n 2, 1), (1, .newarray .byte, 2), (3, .astore_n 3, 1), (4, .aload_n 0, 1), (5, .iload_n 1, 1), (6, .aload_n 3, 1), (7, .iconst 0, 1), (8, .iload_n 2, 1), (9, .invokestatic 115, 3), (12, .istore 4, 2), (14, .iload 4, 2), (16, .iload_n 2, 1), (17, .if_icmp .eq 40, 3), (57, .aload_n 3, 1), (58, .areturn, 1)]
theorem B_rm_cmp3_ok : okB jdk_52_method_16_code B_rm_cmp3 = true := by decide +kernel
set_option maxRecDepth 65536 in
set_option maxHeartbeats 40000000 in
theorem rm_cmp3 (l : Launch) (Z : State) (a0 : Array Value) (hw : ∀ d ∈ tables_1, d.before a0 Z = true) (ca : Addr) (cs : List Int32) (n : Int32) (hlat : Lat cs) (hn : n.toInt = cs.length) (hcap : cs.length ≤ 16) : Ct l Z EL1 nw1 (⟨"java/lang/StringUTF16", "compress", "([CII)[B"⟩ : MethodName) jdk_52_method_16_code 6 (some (.array .byte)) [] ({ frames := 1, cells := 1, slots := 16, locals := 18 } : Room) [.ref ca, .int 0, .int n] [(ca, true, .inr .char, cs.map Value.int)] (fun v L => ∃ b : Addr, v = some (.ref b) ∧ L = [(ca, true, .inr .char, cs.map Value.int), (b, true, .inr .byte, cs.map bt)]) := by
  refine ct_of pn1 (B := B_rm_cmp3) (ls := [.val (.ref ca), .val (.int 0), .val (.int n), .unset, .unset, .unset]) B_rm_cmp3_ok (ew1 hw) (fun m => by first | (simp [entryFrame, mkF, argsToLocals, Value.category]; done) | rfl) (fun K C => ?_)
  refine wp_blk C 0 1 (pc' := 1) (ls' := [.val (.ref ca), .val (.int 0), .val (.int n), .unset, .unset, .unset]) (st' := [.int n]) rfl ?_
  refine wp_newA C (n := cs.length) (cap := 16) (cells' := 1) (slots' := 16) (vs := List.replicate cs.length (.int 0)) 1 3 rfl rfl (wd hw 19 rfl) hn hcap (by decide) rfl rfl (by decide) (by decide) rfl (fun b => ?_)
  refine wp_blk C 2 6 (pc' := 9) (ls' := [.val (.ref ca), .val (.int 0), .val (.int n), .val (.ref b), .unset, .unset]) (st' := [.int n, .int 0, .ref b, .int 0, .ref ca]) rfl ?_
  refine wp_front C 1 (L' := [(ca, true, .inr .char, cs.map Value.int), (b, true, .inr .byte, List.replicate cs.length (.int 0))]) rfl ?_
  refine wp_static C (al := [.ref ca, .int 0, .ref b, .int 0, .int n]) (rest := []) (L1 := []) (W := 0) (cells' := 1) (slots' := 16) 8 12 (rm_cmp5 l Z a0 hw ca b cs n hlat hn) rfl rfl (wd hw 20 rfl) (wd hw 21 rfl) (wd hw 22 rfl) (wd hw 17 rfl) (by decide) pd0 rfl rfl rfl rfl (by decide) (by decide) rfl rfl rfl (by decide) (by decide) (fun v L' hQ => ?_)
  obtain ⟨rfl, rfl⟩ := hQ
  show Wp K 1 16 [(ca, true, .inr .char, cs.map Value.int), (b, true, .inr .byte, cs.map bt)] 12 [.val (.ref ca), .val (.int 0), .val (.int n), .val (.ref b), .unset, .unset] [.int n]
  refine wp_blk C 9 3 (pc' := 17) (ls' := [.val (.ref ca), .val (.int 0), .val (.int n), .val (.ref b), .val (.int n), .unset]) (st' := [.int n, .int n]) rfl ?_
  refine wp_icmp C 12 57 20 rfl rfl rfl (by decide) (fun _ => ?_) (fun h => absurd h (fun q : n ≠ n => q rfl))
  refine wp_blk C 13 1 (pc' := 58) (ls' := [.val (.ref ca), .val (.int 0), .val (.int n), .val (.ref b), .val (.int n), .unset]) (st' := [.ref b]) rfl ?_
  exact wp_retA C 14 rfl rfl rfl (by decide) (by decide) (⟨b, rfl, rfl⟩)
theorem pn2 : plainFor (⟨"java/lang/StringUTF16", "coderFromArrayLen", "([BI)B"⟩ : MethodName) = true := by first | (refine plainFor_of_name ?_; simp [plainName, overriddenIn]; done) | (refine plainFor_of_name ?_; decide +kernel) | decide +kernel
def B_rm_cod : Prog := [(0, .iload_n 1, 1), (1, .aload_n 0, 1), (2, .arraylength, 1), (3, .isub, 1), (4, .bipush 31, 2), (6, .iushr, 1), (7, .i2b, 1), (8, .ireturn, 1)]
theorem B_rm_cod_ok : okB jdk_52_method_15_code B_rm_cod = true := by decide +kernel
set_option maxRecDepth 65536 in
set_option maxHeartbeats 40000000 in
theorem rm_cod (l : Launch) (Z : State) (a0 : Array Value) (hw : ∀ d ∈ tables_1, d.before a0 Z = true) (b : Addr) (cs : List Int32) (n : Int32) (hn : n.toInt = cs.length) : Ct l Z EL1 nw1 (⟨"java/lang/StringUTF16", "coderFromArrayLen", "([BI)B"⟩ : MethodName) jdk_52_method_15_code 2 (some .byte) [] ({ frames := 0, cells := 0, slots := 0, locals := 0 } : Room) [.ref b, .int n] [(b, true, .inr .byte, cs.map bt)] (fun v L => v = some (.int 0) ∧ L = [(b, true, .inr .byte, cs.map bt)]) := by
  refine ct_of pn2 (B := B_rm_cod) (ls := [.val (.ref b), .val (.int n)]) B_rm_cod_ok (ew1 hw) (fun m => by first | (simp [entryFrame, mkF, argsToLocals, Value.category]; done) | rfl) (fun K C => ?_)
  refine wp_blk C 0 2 (pc' := 2) (ls' := [.val (.ref b), .val (.int n)]) (st' := [.ref b, .int n]) rfl ?_
  refine wp_len C (z := n) 2 3 0 rfl rfl rfl (by rw [List.length_map]; exact len32 hn) ?_
  refine wp_blk C 3 4 (pc' := 8) (ls' := [.val (.ref b), .val (.int n)]) (st' := [.int ((ush (n - n) 31 : Int32).toInt8.toInt32)]) rfl ?_
  exact wp_retN C 7 rfl (Or.inr (Or.inl rfl)) (coder0 n) (by decide) (by decide) (⟨rfl, rfl⟩)
theorem pn3 : plainFor (⟨"java/lang/String", "<init>", "([CIILjava/lang/Void;)V"⟩ : MethodName) = true := by first | (refine plainFor_of_name ?_; simp [plainName, overriddenIn]; done) | (refine plainFor_of_name ?_; decide +kernel) | decide +kernel
theorem pd1 : parseMethodDescriptor "([CII)[B" = some ⟨[(.array .char), .int, .int], (some (.array .byte))⟩ := by decide +kernel
theorem pd2 : parseMethodDescriptor "([BI)B" = some ⟨[(.array .byte), .int], (some .byte)⟩ := by decide +kernel
theorem fd0 : parseFieldDescriptor "B" = some .byte := by decide +kernel
theorem fd1 : parseFieldDescriptor "[B" = some (.array .byte) := by decide +kernel
def B_rm_ct4 : Prog := [(0, .aload_n 0, 1), (1, .invokespecial 1, 3), (4, .iload_n 3, 1), (5, .ifCond .ne 22, 3), (27, .getstatic 38, 3), (30, .ifCond .eq 28, 3), (33, .aload_n 1, 1), (34, .iload_n 2, 1), (35, .iload_n 3, 1), (36, .invokestatic 177, 3), (39, .astore 5, 2), (41, .aload_n 0, 1), (42, .aload 5, 2), (44, .iload_n 3, 1), (45, .invokestatic 47, 3), (48, .putfield 15, 3), (51, .aload_n 0, 1), (52, .aload 5, 2), (54, .putfield 9, 3), (57, .return_, 1)]
theorem B_rm_ct4_ok : okB jdk_42_method_149_code B_rm_ct4 = true := by decide +kernel
set_option maxRecDepth 65536 in
set_option maxHeartbeats 40000000 in
theorem rm_ct4 (l : Launch) (Z : State) (a0 : Array Value) (hw : ∀ d ∈ tables_1, d.before a0 Z = true) (sa ca : Addr) (cs : List Int32) (n : Int32) (cz : Int32) (S1 : Sta Z Z.heap "java/lang/String" "COMPACT_STRINGS" "Z" (.int cz)) (hcz : cz ≠ 0) (hlat : Lat cs) (hn : n.toInt = cs.length) (h0 : 0 < cs.length) (hcap : cs.length ≤ 16) : Ct l Z EL1 nw1 (⟨"java/lang/String", "<init>", "([CIILjava/lang/Void;)V"⟩ : MethodName) jdk_42_method_149_code 6 none [] ({ frames := 2, cells := 1, slots := 16, locals := 36 } : Room) [.ref sa, .ref ca, .int 0, .int n, .null] [(sa, true, .inl kS, [.int 0, .null]), (ca, true, .inr .char, cs.map Value.int)] (fun v L => v = none ∧ ∃ b : Addr, L = [(sa, true, .inl kS, [.int 0, .ref b]), (b, true, .inr .byte, cs.map bt), (ca, true, .inr .char, cs.map Value.int)]) := by
  refine ct_of pn3 (B := B_rm_ct4) (ls := [.val (.ref sa), .val (.ref ca), .val (.int 0), .val (.int n), .val (.null), .unset]) B_rm_ct4_ok (ew1 hw) (fun m => by first | (simp [entryFrame, mkF, argsToLocals, Value.category]; done) | rfl) (fun K C => ?_)
  refine wp_blk C 0 1 (pc' := 1) (ls' := [.val (.ref sa), .val (.ref ca), .val (.int 0), .val (.int n), .val (.null), .unset]) (st' := [.ref sa]) rfl ?_
  refine wp_initO C (W := 0) 1 4 rfl rfl (wd hw 11 rfl) (wd hw 12 rfl) (wd hw 13 rfl) (by decide) rfl (by decide) rfl ?_
  refine wp_blk C 2 1 (pc' := 5) (ls' := [.val (.ref sa), .val (.ref ca), .val (.int 0), .val (.int n), .val (.null), .unset]) (st' := [.int n]) rfl ?_
  refine wp_ifz C 3 27 8 rfl rfl rfl (by decide) (fun _ => ?_) (fun h => absurd h (fun q : n = 0 => by rw [q, zero32] at hn; omega))
  refine wp_getS C 4 30 rfl rfl (wd hw 14 rfl) Via.refl S1 ?_
  refine wp_ifz C 5 58 33 rfl rfl rfl (by decide) (fun h => absurd h (hcz)) (fun _ => ?_)
  refine wp_blk C 6 3 (pc' := 36) (ls' := [.val (.ref sa), .val (.ref ca), .val (.int 0), .val (.int n), .val (.null), .unset]) (st' := [.int n, .int 0, .ref ca]) rfl ?_
  refine wp_front C 1 (L' := [(ca, true, .inr .char, cs.map Value.int), (sa, true, .inl kS, [.int 0, .null])]) rfl ?_
  refine wp_static C (al := [.ref ca, .int 0, .int n]) (rest := []) (L1 := [(sa, true, .inl kS, [.int 0, .null])]) (W := 0) (cells' := 1) (slots' := 16) 9 39 (rm_cmp3 l Z a0 hw ca cs n hlat hn hcap) rfl rfl (wd hw 15 rfl) (wd hw 16 rfl) (wd hw 18 rfl) (wd hw 17 rfl) (by decide) pd1 rfl rfl rfl rfl (by decide) (by decide) rfl rfl rfl (by decide) (by decide) (fun v L' hQ => ?_)
  obtain ⟨b, rfl, rfl⟩ := hQ
  show Wp K 1 16 [(ca, true, .inr .char, cs.map Value.int), (b, true, .inr .byte, cs.map bt), (sa, true, .inl kS, [.int 0, .null])] 39 [.val (.ref sa), .val (.ref ca), .val (.int 0), .val (.int n), .val (.null), .unset] [.ref b]
  refine wp_blk C 10 4 (pc' := 45) (ls' := [.val (.ref sa), .val (.ref ca), .val (.int 0), .val (.int n), .val (.null), .val (.ref b)]) (st' := [.int n, .ref b, .ref sa]) rfl ?_
  refine wp_front C 1 (L' := [(b, true, .inr .byte, cs.map bt), (ca, true, .inr .char, cs.map Value.int), (sa, true, .inl kS, [.int 0, .null])]) rfl ?_
  refine wp_static C (al := [.ref b, .int n]) (rest := [.ref sa]) (L1 := [(ca, true, .inr .char, cs.map Value.int), (sa, true, .inl kS, [.int 0, .null])]) (W := 1) (cells' := 1) (slots' := 16) 14 48 (rm_cod l Z a0 hw b cs n hn) rfl rfl (wd hw 23 rfl) (wd hw 24 rfl) (wd hw 25 rfl) (wd hw 17 rfl) (by decide) pd2 rfl rfl rfl rfl (by decide) (by decide) rfl rfl rfl (by decide) (by decide) (fun v L' hQ => ?_)
  obtain ⟨rfl, rfl⟩ := hQ
  show Wp K 1 16 [(b, true, .inr .byte, cs.map bt), (ca, true, .inr .char, cs.map Value.int), (sa, true, .inl kS, [.int 0, .null])] 48 [.val (.ref sa), .val (.ref ca), .val (.int 0), .val (.int n), .val (.null), .val (.ref b)] [.int 0, .ref sa]
  refine wp_put C (ty := .byte) (v := .int 0) (vs' := [.int 0, .null]) (L' := [(b, true, .inr .byte, cs.map bt), (ca, true, .inr .char, cs.map Value.int), (sa, true, .inl kS, [.int 0, .null])]) 15 51 2 0 rfl rfl (wd hw 26 rfl) Via.refl (Or.inr ⟨wd hw 27 rfl, rfl, rfl⟩) (wd hw 1 rfl) (kS_ok hw) fd0 rfl rfl rfl rfl rfl rfl rfl ?_
  refine wp_blk C 16 2 (pc' := 54) (ls' := [.val (.ref sa), .val (.ref ca), .val (.int 0), .val (.int n), .val (.null), .val (.ref b)]) (st' := [.ref b, .ref sa]) rfl ?_
  refine wp_put C (ty := (.array .byte)) (v := .ref b) (vs' := [.int 0, .ref b]) (L' := [(b, true, .inr .byte, cs.map bt), (ca, true, .inr .char, cs.map Value.int), (sa, true, .inl kS, [.int 0, .ref b])]) 18 57 2 1 rfl rfl (wd hw 28 rfl) Via.refl (Or.inr ⟨wd hw 29 rfl, rfl, rfl⟩) (wd hw 1 rfl) (kS_ok hw) fd1 rfl rfl rfl rfl rfl rfl rfl ?_
  refine wp_front C 1 (L' := [(ca, true, .inr .char, cs.map Value.int), (b, true, .inr .byte, cs.map bt), (sa, true, .inl kS, [.int 0, .ref b])]) rfl ?_
  refine wp_front C 1 (L' := [(b, true, .inr .byte, cs.map bt), (ca, true, .inr .char, cs.map Value.int), (sa, true, .inl kS, [.int 0, .ref b])]) rfl ?_
  refine wp_front C 2 (L' := [(sa, true, .inl kS, [.int 0, .ref b]), (b, true, .inr .byte, cs.map bt), (ca, true, .inr .char, cs.map Value.int)]) rfl ?_
  exact wp_ret0 C 19 rfl (by decide) (by decide) (⟨rfl, b, rfl⟩)
theorem pn4 : plainFor (⟨"java/lang/String", "<init>", "([C)V"⟩ : MethodName) = true := by first | (refine plainFor_of_name ?_; simp [plainName, overriddenIn]; done) | (refine plainFor_of_name ?_; decide +kernel) | decide +kernel
theorem pd3 : parseMethodDescriptor "([CIILjava/lang/Void;)V" = some ⟨[(.array .char), .int, .int, (.object "java/lang/Void")], none⟩ := by decide +kernel
def B_rm_str : Prog := [(0, .aload_n 0, 1), (1, .aload_n 1, 1), (2, .iconst 0, 1), (3, .aload_n 1, 1), (4, .arraylength, 1), (5, .aconst_null, 1), (6, .invokespecial 27, 3), (9, .return_, 1)]
theorem B_rm_str_ok : okB jdk_42_method_3_code B_rm_str = true := by decide +kernel
set_option maxRecDepth 65536 in
set_option maxHeartbeats 40000000 in
theorem rm_str (l : Launch) (Z : State) (a0 : Array Value) (hw : ∀ d ∈ tables_1, d.before a0 Z = true) (sa ca : Addr) (cs : List Int32) (cz : Int32) (S1 : Sta Z Z.heap "java/lang/String" "COMPACT_STRINGS" "Z" (.int cz)) (hcz : cz ≠ 0) (hlat : Lat cs) (h0 : 0 < cs.length) (hcap : cs.length ≤ 16) : Ct l Z EL1 nw1 (⟨"java/lang/String", "<init>", "([C)V"⟩ : MethodName) jdk_42_method_3_code 2 none [] ({ frames := 3, cells := 1, slots := 16, locals := 53 } : Room) [.ref sa, .ref ca] [(sa, true, .inl kS, [.int 0, .null]), (ca, true, .inr .char, cs.map Value.int)] (fun v L => v = none ∧ ∃ b : Addr, L = [(sa, true, .inl kS, [.int 0, .ref b]), (b, true, .inr .byte, cs.map bt), (ca, true, .inr .char, cs.map Value.int)]) := by
  refine ct_of pn4 (B := B_rm_str) (ls := [.val (.ref sa), .val (.ref ca)]) B_rm_str_ok (ew1 hw) (fun m => by first | (simp [entryFrame, mkF, argsToLocals, Value.category]; done) | rfl) (fun K C => ?_)
  refine wp_blk C 0 4 (pc' := 4) (ls' := [.val (.ref sa), .val (.ref ca)]) (st' := [.ref ca, .int 0, .ref ca, .ref sa]) rfl ?_
  obtain ⟨n, hnn⟩ : ∃ n : Int32, cs.length.toInt32 = n := ⟨_, rfl⟩
  have hn : n.toInt = cs.length := by rw [← hnn]; exact len_toInt (by omega)
  refine wp_len C (z := n) 4 5 1 rfl rfl rfl (by rw [List.length_map]; exact hnn) ?_
  refine wp_blk C 5 1 (pc' := 6) (ls' := [.val (.ref sa), .val (.ref ca)]) (st' := [.null, .int n, .int 0, .ref ca, .ref sa]) rfl ?_
  refine wp_init C (al := [.ref ca, .int 0, .int n, .null]) (rest := []) (L1 := []) (W := 0) (cells' := 1) (slots' := 16) 6 9 (rm_ct4 l Z a0 hw sa ca cs n cz S1 hcz hlat hn h0 hcap) rfl rfl (wd hw 7 rfl) (wd hw 8 rfl) (wd hw 10 rfl) (wd hw 2 rfl) rfl (by decide) pd3 rfl rfl rfl rfl (by decide) (by decide) rfl rfl rfl (by decide) (by decide) (fun v L' hQ => ?_)
  obtain ⟨rfl, b, rfl⟩ := hQ
  show Wp K 1 16 [(sa, true, .inl kS, [.int 0, .ref b]), (b, true, .inr .byte, cs.map bt), (ca, true, .inr .char, cs.map Value.int)] 9 [.val (.ref sa), .val (.ref ca)] []
  exact wp_ret0 C 7 rfl (by decide) (by decide) (⟨rfl, b, rfl⟩)
theorem pn5 : plainFor (⟨"java/lang/StringLatin1", "equals", "([B[B)Z"⟩ : MethodName) = true := by first | (refine plainFor_of_name ?_; simp [plainName, overriddenIn]; done) | (refine plainFor_of_name ?_; decide +kernel) | decide +kernel
def B_rm_leq1 : Prog := [(0, .aload_n 0, 1), (1, .arraylength, 1), (2, .aload_n 1, 1), (3, .arraylength, 1), (4, .if_icmp .ne 30, 3), (7, .iconst 0, 1), (8, .istore_n 2, 1), (9, .iload_n 2, 1), (10, .aload_n 0, 1), (11, .arraylength, 1), (12, .if_icmp .ge 20, 3), (15, .aload_n 0, 1), (16, .iload_n 2, 1), (17, .baload, 1), (18, .aload_n 1, 1), (19, .iload_n 2, 1), (20, .baload, 1), (21, .if_icmp .eq 5, 3), (24, .iconst 0, 1), (25, .ireturn, 1), (26, .iinc 2 1, 3), (29, .goto (-20), 3), (32, .iconst 1, 1), (33, .ireturn, 1), (34, .iconst 0, 1), (35, .ireturn, 1)]
theorem B_rm_leq1_ok : okB jdk_43_method_13_code B_rm_leq1 = true := by decide +kernel
set_option maxRecDepth 65536 in
set_option maxHeartbeats 40000000 in
theorem rm_leq1 (l : Launch) (Z : State) (a0 : Array Value) (hw : ∀ d ∈ tables_1, d.before a0 Z = true) (b e : Addr) (cs ds : List Int32) (hlc : Lat cs) (hld : Lat ds) (hc31 : cs.length < 2 ^ 31) (hd31 : ds.length < 2 ^ 31) : Ct l Z EL1 nw1 (⟨"java/lang/StringLatin1", "equals", "([B[B)Z"⟩ : MethodName) jdk_43_method_13_code 3 (some .boolean) [] ({ frames := 0, cells := 0, slots := 0, locals := 0 } : Room) [.ref b, .ref e] [(b, true, .inr .byte, cs.map bt), (e, true, .inr .byte, ds.map bt)] (fun v L => v = some (.int (if cs = ds then 1 else 0)) ∧ L = [(b, true, .inr .byte, cs.map bt), (e, true, .inr .byte, ds.map bt)]) := by
  refine ct_of pn5 (B := B_rm_leq1) (ls := [.val (.ref b), .val (.ref e), .unset]) B_rm_leq1_ok (ew1 hw) (fun m => by first | (simp [entryFrame, mkF, argsToLocals, Value.category]; done) | rfl) (fun K C => ?_)
  have hc1 : (cs.length.toInt32).toInt = cs.length := len_toInt (by omega)
  have hd1 : (ds.length.toInt32).toInt = ds.length := len_toInt (by omega)
  generalize hn1 : cs.length.toInt32 = n at *
  generalize hn2 : ds.length.toInt32 = n2 at *
  have loop : cs.length = ds.length → ∀ (m : Nat) (d r1 r2 : List Int32) (i : Int32), r1.length = m → d ++ r1 = cs → d ++ r2 = ds → i.toInt = d.length → Wp K 0 0 [(b, true, .inr .byte, cs.map bt), (e, true, .inr .byte, ds.map bt)] 9 [.val (.ref b), .val (.ref e), .val (.int i)] [] := by
    intro hll m
    induction m with
    | zero =>
      intro d r1 r2 i hm h1 h2 hi
      obtain rfl := List.length_eq_zero_iff.mp hm
      rw [List.append_nil] at h1
      subst h1
      obtain rfl : r2 = [] := by have := congrArg List.length h2; simp at this; exact List.length_eq_zero_iff.mp (by omega)
      rw [List.append_nil] at h2
      subst h2
      refine wp_blk C 7 2 (pc' := 11) (ls' := [.val (.ref b), .val (.ref e), .val (.int i)]) (st' := [.ref b, .int i]) rfl ?_
      refine wp_len C (z := n) 9 12 0 rfl rfl rfl (by rw [List.length_map]; exact hn1) ?_
      refine wp_icmp C 10 32 15 rfl rfl rfl (by decide) (fun _ => ?_) (fun h => absurd h (fun q : i.toInt < n.toInt => by omega))
      refine wp_blk C 22 1 (pc' := 33) (ls' := [.val (.ref b), .val (.ref e), .val (.int i)]) (st' := [.int 1]) rfl ?_
      exact wp_retN C (z' := 1) 23 rfl (Or.inl rfl) rfl (by decide) (by decide) (⟨by rw [if_pos rfl], rfl⟩)
    | succ m ih =>
      intro d r1 r2 i hm h1 h2 hi
      obtain ⟨x, r1, rfl⟩ : ∃ x r, r1 = x :: r := by cases r1 with | nil => simp at hm | cons x r => exact ⟨x, r, rfl⟩
      have hm : r1.length = m := by simpa using hm
      obtain ⟨z, r2, rfl⟩ : ∃ z r, r2 = z :: r := by cases r2 with | nil => (exfalso; have a := congrArg List.length h1; have b := congrArg List.length h2; simp at a b; omega) | cons z r => exact ⟨z, r, rfl⟩
      have hx := hlc x (by rw [← h1]; simp)
      have hz := hld z (by rw [← h2]; simp)
      have hlen : d.length + (r1.length + 1) = cs.length := by rw [← h1]; simp
      refine wp_blk C 7 2 (pc' := 11) (ls' := [.val (.ref b), .val (.ref e), .val (.int i)]) (st' := [.ref b, .int i]) rfl ?_
      refine wp_len C (z := n) 9 12 0 rfl rfl rfl (by rw [List.length_map]; exact hn1) ?_
      refine wp_icmp C 10 32 15 rfl rfl rfl (by decide) (fun h => absurd h (fun q : n.toInt ≤ i.toInt => by omega)) (fun _ => ?_)
      refine wp_blk C 11 2 (pc' := 17) (ls' := [.val (.ref b), .val (.ref e), .val (.int i)]) (st' := [.int i, .ref b]) rfl ?_
      refine wp_aload C (n := d.length) (v := .int x.toInt8.toInt32) 13 18 0 rfl rfl (Or.inr (Or.inr (Or.inr (Or.inl ⟨rfl, rfl⟩)))) rfl hi (by rw [← h1]; simp) ?_
      refine wp_blk C 14 2 (pc' := 20) (ls' := [.val (.ref b), .val (.ref e), .val (.int i)]) (st' := [.int i, .ref e, .int x.toInt8.toInt32]) rfl ?_
      refine wp_aload C (n := d.length) (v := .int z.toInt8.toInt32) 16 21 1 rfl rfl (Or.inr (Or.inr (Or.inr (Or.inl ⟨rfl, rfl⟩)))) rfl hi (by rw [← h2]; simp) ?_
      refine wp_icmp C 17 26 24 rfl rfl rfl (by decide) (fun (hq : (x.toInt8.toInt32 : Int32) = z.toInt8.toInt32) => ?_) (fun (hq : (x.toInt8.toInt32 : Int32) ≠ z.toInt8.toInt32) => ?_)
      · obtain rfl := bt_inj hx hz hq
        refine wp_blk C 20 1 (pc' := 29) (ls' := [.val (.ref b), .val (.ref e), .val (.int (i + 1))]) (st' := []) rfl ?_
        obtain ⟨i1, hi1⟩ : ∃ nn0 : Int32, nn0 = i + 1 := ⟨_, rfl⟩
        rw [← hi1]
        have Hi1 : i1.toInt = (d.length + 1 : Nat) := by rw [hi1]; exact addI hi one32
        refine wp_blk C 21 1 (pc' := 9) (ls' := [.val (.ref b), .val (.ref e), .val (.int i1)]) (st' := []) rfl ?_
        exact ih (d ++ [x]) r1 r2 i1 hm (by rw [← h1]; simp) (by rw [← h2]; simp) (by rw [Hi1]; simp)
      · refine wp_blk C 18 1 (pc' := 25) (ls' := [.val (.ref b), .val (.ref e), .val (.int i)]) (st' := [.int 0]) rfl ?_
        exact wp_retN C (z' := 0) 19 rfl (Or.inl rfl) rfl (by decide) (by decide) (⟨by rw [if_neg (fun q => hq (by rw [← h1, ← h2] at q; have := List.append_cancel_left q; simp at this; rw [this.1]))], rfl⟩)
  refine wp_blk C 0 1 (pc' := 1) (ls' := [.val (.ref b), .val (.ref e), .unset]) (st' := [.ref b]) rfl ?_
  refine wp_len C (z := n) 1 2 0 rfl rfl rfl (by rw [List.length_map]; exact hn1) ?_
  refine wp_blk C 2 1 (pc' := 3) (ls' := [.val (.ref b), .val (.ref e), .unset]) (st' := [.ref e, .int n]) rfl ?_
  refine wp_len C (z := n2) 3 4 1 rfl rfl rfl (by rw [List.length_map]; exact hn2) ?_
  refine wp_icmp C 4 34 7 rfl rfl rfl (by decide) (fun (hq : (n : Int32) ≠ n2) => ?_) (fun (hq : (n : Int32) = n2) => ?_)
  · refine wp_blk C 24 1 (pc' := 35) (ls' := [.val (.ref b), .val (.ref e), .unset]) (st' := [.int 0]) rfl ?_
    exact wp_retN C (z' := 0) 25 rfl (Or.inl rfl) rfl (by decide) (by decide) (⟨by rw [if_neg (fun q => hq (by rw [← hn1, ← hn2, q]))], rfl⟩)
  · refine wp_blk C 5 2 (pc' := 9) (ls' := [.val (.ref b), .val (.ref e), .val (.int 0)]) (st' := []) rfl ?_
    exact loop (by rw [hq] at hc1; omega) cs.length [] cs ds 0 rfl rfl rfl rfl
def B_rm_leq0 : Prog := [(0, .aload_n 0, 1), (1, .arraylength, 1), (2, .aload_n 1, 1), (3, .arraylength, 1), (4, .if_icmp .ne 30, 3), (7, .iconst 0, 1), (8, .istore_n 2, 1), (9, .iload_n 2, 1), (10, .aload_n 0, 1), (11, .arraylength, 1), (12, .if_icmp .ge 20, 3), (15, .aload_n 0, 1), (16, .iload_n 2, 1), (17, .baload, 1), (18, .aload_n 1, 1), (19, .iload_n 2, 1), (20, .baload, 1), (21, .if_icmp .eq 5, 3), (24, .iconst 0, 1), (25, .ireturn, 1), (26, .iinc 2 1, 3), (29, .goto (-20), 3), (32, .iconst 1, 1), (33, .ireturn, 1), (34, .iconst 0, 1), (35, .ireturn, 1)]
theorem B_rm_leq0_ok : okB jdk_43_method_13_code B_rm_leq0 = true := by decide +kernel
set_option maxRecDepth 65536 in
set_option maxHeartbeats 40000000 in
theorem rm_leq0 (l : Launch) (Z : State) (a0 : Array Value) (hw : ∀ d ∈ tables_1, d.before a0 Z = true) (b e : Addr) (cs ds : List Int32) (hlc : Lat cs) (hld : Lat ds) (hc31 : cs.length < 2 ^ 31) (hd31 : ds.length < 2 ^ 31) : Ct l Z EL1 nw1 (⟨"java/lang/StringLatin1", "equals", "([B[B)Z"⟩ : MethodName) jdk_43_method_13_code 3 (some .boolean) [] ({ frames := 0, cells := 0, slots := 0, locals := 0 } : Room) [.ref b, .ref e] [(b, true, .inr .byte, cs.map bt), (e, false, .inr .byte, ds.map bt)] (fun v L => v = some (.int (if cs = ds then 1 else 0)) ∧ L = [(b, true, .inr .byte, cs.map bt), (e, false, .inr .byte, ds.map bt)]) := by
  refine ct_of pn5 (B := B_rm_leq0) (ls := [.val (.ref b), .val (.ref e), .unset]) B_rm_leq0_ok (ew1 hw) (fun m => by first | (simp [entryFrame, mkF, argsToLocals, Value.category]; done) | rfl) (fun K C => ?_)
  have hc1 : (cs.length.toInt32).toInt = cs.length := len_toInt (by omega)
  have hd1 : (ds.length.toInt32).toInt = ds.length := len_toInt (by omega)
  generalize hn1 : cs.length.toInt32 = n at *
  generalize hn2 : ds.length.toInt32 = n2 at *
  have loop : cs.length = ds.length → ∀ (m : Nat) (d r1 r2 : List Int32) (i : Int32), r1.length = m → d ++ r1 = cs → d ++ r2 = ds → i.toInt = d.length → Wp K 0 0 [(b, true, .inr .byte, cs.map bt), (e, false, .inr .byte, ds.map bt)] 9 [.val (.ref b), .val (.ref e), .val (.int i)] [] := by
    intro hll m
    induction m with
    | zero =>
      intro d r1 r2 i hm h1 h2 hi
      obtain rfl := List.length_eq_zero_iff.mp hm
      rw [List.append_nil] at h1
      subst h1
      obtain rfl : r2 = [] := by have := congrArg List.length h2; simp at this; exact List.length_eq_zero_iff.mp (by omega)
      rw [List.append_nil] at h2
      subst h2
      refine wp_blk C 7 2 (pc' := 11) (ls' := [.val (.ref b), .val (.ref e), .val (.int i)]) (st' := [.ref b, .int i]) rfl ?_
      refine wp_len C (z := n) 9 12 0 rfl rfl rfl (by rw [List.length_map]; exact hn1) ?_
      refine wp_icmp C 10 32 15 rfl rfl rfl (by decide) (fun _ => ?_) (fun h => absurd h (fun q : i.toInt < n.toInt => by omega))
      refine wp_blk C 22 1 (pc' := 33) (ls' := [.val (.ref b), .val (.ref e), .val (.int i)]) (st' := [.int 1]) rfl ?_
      exact wp_retN C (z' := 1) 23 rfl (Or.inl rfl) rfl (by decide) (by decide) (⟨by rw [if_pos rfl], rfl⟩)
    | succ m ih =>
      intro d r1 r2 i hm h1 h2 hi
      obtain ⟨x, r1, rfl⟩ : ∃ x r, r1 = x :: r := by cases r1 with | nil => simp at hm | cons x r => exact ⟨x, r, rfl⟩
      have hm : r1.length = m := by simpa using hm
      obtain ⟨z, r2, rfl⟩ : ∃ z r, r2 = z :: r := by cases r2 with | nil => (exfalso; have a := congrArg List.length h1; have b := congrArg List.length h2; simp at a b; omega) | cons z r => exact ⟨z, r, rfl⟩
      have hx := hlc x (by rw [← h1]; simp)
      have hz := hld z (by rw [← h2]; simp)
      have hlen : d.length + (r1.length + 1) = cs.length := by rw [← h1]; simp
      refine wp_blk C 7 2 (pc' := 11) (ls' := [.val (.ref b), .val (.ref e), .val (.int i)]) (st' := [.ref b, .int i]) rfl ?_
      refine wp_len C (z := n) 9 12 0 rfl rfl rfl (by rw [List.length_map]; exact hn1) ?_
      refine wp_icmp C 10 32 15 rfl rfl rfl (by decide) (fun h => absurd h (fun q : n.toInt ≤ i.toInt => by omega)) (fun _ => ?_)
      refine wp_blk C 11 2 (pc' := 17) (ls' := [.val (.ref b), .val (.ref e), .val (.int i)]) (st' := [.int i, .ref b]) rfl ?_
      refine wp_aload C (n := d.length) (v := .int x.toInt8.toInt32) 13 18 0 rfl rfl (Or.inr (Or.inr (Or.inr (Or.inl ⟨rfl, rfl⟩)))) rfl hi (by rw [← h1]; simp) ?_
      refine wp_blk C 14 2 (pc' := 20) (ls' := [.val (.ref b), .val (.ref e), .val (.int i)]) (st' := [.int i, .ref e, .int x.toInt8.toInt32]) rfl ?_
      refine wp_aload C (n := d.length) (v := .int z.toInt8.toInt32) 16 21 1 rfl rfl (Or.inr (Or.inr (Or.inr (Or.inl ⟨rfl, rfl⟩)))) rfl hi (by rw [← h2]; simp) ?_
      refine wp_icmp C 17 26 24 rfl rfl rfl (by decide) (fun (hq : (x.toInt8.toInt32 : Int32) = z.toInt8.toInt32) => ?_) (fun (hq : (x.toInt8.toInt32 : Int32) ≠ z.toInt8.toInt32) => ?_)
      · obtain rfl := bt_inj hx hz hq
        refine wp_blk C 20 1 (pc' := 29) (ls' := [.val (.ref b), .val (.ref e), .val (.int (i + 1))]) (st' := []) rfl ?_
        obtain ⟨i1, hi1⟩ : ∃ nn0 : Int32, nn0 = i + 1 := ⟨_, rfl⟩
        rw [← hi1]
        have Hi1 : i1.toInt = (d.length + 1 : Nat) := by rw [hi1]; exact addI hi one32
        refine wp_blk C 21 1 (pc' := 9) (ls' := [.val (.ref b), .val (.ref e), .val (.int i1)]) (st' := []) rfl ?_
        exact ih (d ++ [x]) r1 r2 i1 hm (by rw [← h1]; simp) (by rw [← h2]; simp) (by rw [Hi1]; simp)
      · refine wp_blk C 18 1 (pc' := 25) (ls' := [.val (.ref b), .val (.ref e), .val (.int i)]) (st' := [.int 0]) rfl ?_
        exact wp_retN C (z' := 0) 19 rfl (Or.inl rfl) rfl (by decide) (by decide) (⟨by rw [if_neg (fun q => hq (by rw [← h1, ← h2] at q; have := List.append_cancel_left q; simp at this; rw [this.1]))], rfl⟩)
  refine wp_blk C 0 1 (pc' := 1) (ls' := [.val (.ref b), .val (.ref e), .unset]) (st' := [.ref b]) rfl ?_
  refine wp_len C (z := n) 1 2 0 rfl rfl rfl (by rw [List.length_map]; exact hn1) ?_
  refine wp_blk C 2 1 (pc' := 3) (ls' := [.val (.ref b), .val (.ref e), .unset]) (st' := [.ref e, .int n]) rfl ?_
  refine wp_len C (z := n2) 3 4 1 rfl rfl rfl (by rw [List.length_map]; exact hn2) ?_
  refine wp_icmp C 4 34 7 rfl rfl rfl (by decide) (fun (hq : (n : Int32) ≠ n2) => ?_) (fun (hq : (n : Int32) = n2) => ?_)
  · refine wp_blk C 24 1 (pc' := 35) (ls' := [.val (.ref b), .val (.ref e), .unset]) (st' := [.int 0]) rfl ?_
    exact wp_retN C (z' := 0) 25 rfl (Or.inl rfl) rfl (by decide) (by decide) (⟨by rw [if_neg (fun q => hq (by rw [← hn1, ← hn2, q]))], rfl⟩)
  · refine wp_blk C 5 2 (pc' := 9) (ls' := [.val (.ref b), .val (.ref e), .val (.int 0)]) (st' := []) rfl ?_
    exact loop (by rw [hq] at hc1; omega) cs.length [] cs ds 0 rfl rfl rfl rfl
theorem pn6 : plainFor (⟨"java/lang/String", "equals", "(Ljava/lang/Object;)Z"⟩ : MethodName) = true := by first | (refine plainFor_of_name ?_; simp [plainName, overriddenIn]; done) | (refine plainFor_of_name ?_; decide +kernel) | decide +kernel
theorem pd4 : parseMethodDescriptor "([B[B)Z" = some ⟨[(.array .byte), (.array .byte)], (some .boolean)⟩ := by decide +kernel
def B_rm_eq1 : Prog := [(0, .aload_n 0, 1), (1, .aload_n 1, 1), (2, .if_acmp .ne 5, 3), (7, .aload_n 1, 1), (8, .instanceof 10, 3), (11, .ifCond .eq 43, 3), (14, .aload_n 1, 1), (15, .checkcast 10, 3), (18, .astore_n 2, 1), (19, .getstatic 38, 3), (22, .ifCond .eq 14, 3), (25, .aload_n 0, 1), (26, .getfield 15, 3), (29, .aload_n 2, 1), (30, .getfield 15, 3), (33, .if_icmp .ne 21, 3), (36, .aload_n 0, 1), (37, .getfield 9, 3), (40, .aload_n 2, 1), (41, .getfield 9, 3), (44, .invokestatic 541, 3), (47, .ifCond .eq 7, 3), (50, .iconst 1, 1), (51, .goto 4, 3), (54, .iconst 0, 1), (55, .ireturn, 1)]
theorem B_rm_eq1_ok : okB jdk_42_method_66_code B_rm_eq1 = true := by decide +kernel
set_option maxRecDepth 65536 in
set_option maxHeartbeats 40000000 in
theorem rm_eq1 (l : Launch) (Z : State) (a0 : Array Value) (hw : ∀ d ∈ tables_1, d.before a0 Z = true) (sa b ta e : Addr) (cs ds : List Int32) (cz : Int32) (S1 : Sta Z Z.heap "java/lang/String" "COMPACT_STRINGS" "Z" (.int cz)) (hcz : cz ≠ 0) (hlc : Lat cs) (hld : Lat ds) (hc31 : cs.length < 2 ^ 31) (hd31 : ds.length < 2 ^ 31) : Ct l Z EL1 nw1 (⟨"java/lang/String", "equals", "(Ljava/lang/Object;)Z"⟩ : MethodName) jdk_42_method_66_code 3 (some .boolean) [] ({ frames := 1, cells := 0, slots := 0, locals := 14 } : Room) [.ref sa, .ref ta] [(sa, true, .inl kS, [.int 0, .ref b]), (b, true, .inr .byte, cs.map bt), (ta, true, .inl kS, [.int 0, .ref e]), (e, true, .inr .byte, ds.map bt)] (fun v L => v = some (.int (if cs = ds then 1 else 0)) ∧ L = [(sa, true, .inl kS, [.int 0, .ref b]), (b, true, .inr .byte, cs.map bt), (ta, true, .inl kS, [.int 0, .ref e]), (e, true, .inr .byte, ds.map bt)]) := by
  refine ct_of pn6 (B := B_rm_eq1) (ls := [.val (.ref sa), .val (.ref ta), .unset]) B_rm_eq1_ok (ew1 hw) (fun m => by first | (simp [entryFrame, mkF, argsToLocals, Value.category]; done) | rfl) (fun K C => ?_)
  refine wp_blk C 0 2 (pc' := 2) (ls' := [.val (.ref sa), .val (.ref ta), .unset]) (st' := [.ref ta, .ref sa]) rfl ?_
  refine wp_ne C 0 2 rfl rfl (by decide) rfl (fun hne => ?_)
  refine wp_acY C 2 7 rfl rfl rfl (by simp [XT.acmp, hne]) rfl (by decide) ?_
  refine wp_blk C 3 1 (pc' := 8) (ls' := [.val (.ref sa), .val (.ref ta), .unset]) (st' := [.ref ta]) rfl ?_
  refine wp_instY C 4 11 2 rfl rfl (wd hw 215 rfl) (wd hw 9 rfl) rfl ?_
  refine wp_ifz C 5 54 14 rfl rfl rfl (by decide) (fun h => absurd h (fun q : (1 : Int32) = 0 => by revert q; decide)) (fun _ => ?_)
  refine wp_blk C 6 1 (pc' := 15) (ls' := [.val (.ref sa), .val (.ref ta), .unset]) (st' := [.ref ta]) rfl ?_
  refine wp_castY C 7 18 2 rfl rfl (wd hw 215 rfl) (wd hw 9 rfl) rfl ?_
  refine wp_blk C 8 1 (pc' := 19) (ls' := [.val (.ref sa), .val (.ref ta), .val (.ref ta)]) (st' := []) rfl ?_
  refine wp_getS C 9 22 rfl rfl (wd hw 14 rfl) Via.refl S1 ?_
  refine wp_ifz C 10 36 25 rfl rfl rfl (by decide) (fun h => absurd h (hcz)) (fun _ => ?_)
  refine wp_blk C 11 1 (pc' := 26) (ls' := [.val (.ref sa), .val (.ref ta), .val (.ref ta)]) (st' := [.ref sa]) rfl ?_
  refine wp_get C 12 29 0 0 rfl rfl (wd hw 26 rfl) Via.refl rfl rfl rfl ?_
  refine wp_blk C 13 1 (pc' := 30) (ls' := [.val (.ref sa), .val (.ref ta), .val (.ref ta)]) (st' := [.ref ta, .int 0]) rfl ?_
  refine wp_get C 14 33 2 0 rfl rfl (wd hw 26 rfl) Via.refl rfl rfl rfl ?_
  refine wp_icmp C 15 54 36 rfl rfl rfl (by decide) (fun h => absurd h (fun q : (0 : Int32) ≠ 0 => q rfl)) (fun _ => ?_)
  refine wp_blk C 16 1 (pc' := 37) (ls' := [.val (.ref sa), .val (.ref ta), .val (.ref ta)]) (st' := [.ref sa]) rfl ?_
  refine wp_get C 17 40 0 1 rfl rfl (wd hw 28 rfl) Via.refl rfl rfl rfl ?_
  refine wp_blk C 18 1 (pc' := 41) (ls' := [.val (.ref sa), .val (.ref ta), .val (.ref ta)]) (st' := [.ref ta, .ref b]) rfl ?_
  refine wp_get C 19 44 2 1 rfl rfl (wd hw 28 rfl) Via.refl rfl rfl rfl ?_
  refine wp_front C 3 (L' := [(e, true, .inr .byte, ds.map bt), (sa, true, .inl kS, [.int 0, .ref b]), (b, true, .inr .byte, cs.map bt), (ta, true, .inl kS, [.int 0, .ref e])]) rfl ?_
  refine wp_front C 2 (L' := [(b, true, .inr .byte, cs.map bt), (e, true, .inr .byte, ds.map bt), (sa, true, .inl kS, [.int 0, .ref b]), (ta, true, .inl kS, [.int 0, .ref e])]) rfl ?_
  refine wp_static C (al := [.ref b, .ref e]) (rest := []) (L1 := [(sa, true, .inl kS, [.int 0, .ref b]), (ta, true, .inl kS, [.int 0, .ref e])]) (W := 0) (cells' := 0) (slots' := 0) 20 47 (rm_leq1 l Z a0 hw b e cs ds hlc hld hc31 hd31) rfl rfl (wd hw 216 rfl) (wd hw 217 rfl) (wd hw 219 rfl) (wd hw 218 rfl) (by decide) pd4 rfl rfl rfl rfl (by decide) (by decide) rfl rfl rfl (by decide) (by decide) (fun v L' hQ => ?_)
  obtain ⟨rfl, rfl⟩ := hQ
  show Wp K 0 0 [(b, true, .inr .byte, cs.map bt), (e, true, .inr .byte, ds.map bt), (sa, true, .inl kS, [.int 0, .ref b]), (ta, true, .inl kS, [.int 0, .ref e])] 47 [.val (.ref sa), .val (.ref ta), .val (.ref ta)] [.int (if cs = ds then 1 else 0)]
  refine wp_front C 1 (L' := [(e, true, .inr .byte, ds.map bt), (b, true, .inr .byte, cs.map bt), (sa, true, .inl kS, [.int 0, .ref b]), (ta, true, .inl kS, [.int 0, .ref e])]) rfl ?_
  refine wp_front C 3 (L' := [(ta, true, .inl kS, [.int 0, .ref e]), (e, true, .inr .byte, ds.map bt), (b, true, .inr .byte, cs.map bt), (sa, true, .inl kS, [.int 0, .ref b])]) rfl ?_
  refine wp_front C 2 (L' := [(b, true, .inr .byte, cs.map bt), (ta, true, .inl kS, [.int 0, .ref e]), (e, true, .inr .byte, ds.map bt), (sa, true, .inl kS, [.int 0, .ref b])]) rfl ?_
  refine wp_front C 3 (L' := [(sa, true, .inl kS, [.int 0, .ref b]), (b, true, .inr .byte, cs.map bt), (ta, true, .inl kS, [.int 0, .ref e]), (e, true, .inr .byte, ds.map bt)]) rfl ?_
  by_cases hcd : cs = ds
  · rw [if_pos hcd]
    refine wp_ifz C 21 54 50 rfl rfl rfl (by decide) (fun h => absurd h (fun q : (1 : Int32) = 0 => by revert q; decide)) (fun _ => ?_)
    refine wp_blk C 22 2 (pc' := 55) (ls' := [.val (.ref sa), .val (.ref ta), .val (.ref ta)]) (st' := [.int 1]) rfl ?_
    exact wp_retN C (z' := 1) 25 rfl (Or.inl rfl) rfl (by decide) (by decide) (⟨by rw [if_pos hcd], rfl⟩)
  · rw [if_neg hcd]
    refine wp_ifz C 21 54 50 rfl rfl rfl (by decide) (fun _ => ?_) (fun h => absurd h (fun q : (0 : Int32) ≠ 0 => q rfl))
    refine wp_blk C 24 1 (pc' := 55) (ls' := [.val (.ref sa), .val (.ref ta), .val (.ref ta)]) (st' := [.int 0]) rfl ?_
    exact wp_retN C (z' := 0) 25 rfl (Or.inl rfl) rfl (by decide) (by decide) (⟨by rw [if_neg hcd], rfl⟩)
def B_rm_eq0 : Prog := [(0, .aload_n 0, 1), (1, .aload_n 1, 1), (2, .if_acmp .ne 5, 3), (7, .aload_n 1, 1), (8, .instanceof 10, 3), (11, .ifCond .eq 43, 3), (14, .aload_n 1, 1), (15, .checkcast 10, 3), (18, .astore_n 2, 1), (19, .getstatic 38, 3), (22, .ifCond .eq 14, 3), (25, .aload_n 0, 1), (26, .getfield 15, 3), (29, .aload_n 2, 1), (30, .getfield 15, 3), (33, .if_icmp .ne 21, 3), (36, .aload_n 0, 1), (37, .getfield 9, 3), (40, .aload_n 2, 1), (41, .getfield 9, 3), (44, .invokestatic 541, 3), (47, .ifCond .eq 7, 3), (50, .iconst 1, 1), (51, .goto 4, 3), (54, .iconst 0, 1), (55, .ireturn, 1)]
theorem B_rm_eq0_ok : okB jdk_42_method_66_code B_rm_eq0 = true := by decide +kernel
set_option maxRecDepth 65536 in
set_option maxHeartbeats 40000000 in
theorem rm_eq0 (l : Launch) (Z : State) (a0 : Array Value) (hw : ∀ d ∈ tables_1, d.before a0 Z = true) (sa b ta e : Addr) (cs ds : List Int32) (cz : Int32) (S1 : Sta Z Z.heap "java/lang/String" "COMPACT_STRINGS" "Z" (.int cz)) (hcz : cz ≠ 0) (hlc : Lat cs) (hld : Lat ds) (hc31 : cs.length < 2 ^ 31) (hd31 : ds.length < 2 ^ 31) : Ct l Z EL1 nw1 (⟨"java/lang/String", "equals", "(Ljava/lang/Object;)Z"⟩ : MethodName) jdk_42_method_66_code 3 (some .boolean) [] ({ frames := 1, cells := 0, slots := 0, locals := 14 } : Room) [.ref sa, .ref ta] [(sa, true, .inl kS, [.int 0, .ref b]), (b, true, .inr .byte, cs.map bt), (ta, false, .inl kS, [.int 0, .ref e]), (e, false, .inr .byte, ds.map bt)] (fun v L => v = some (.int (if cs = ds then 1 else 0)) ∧ L = [(sa, true, .inl kS, [.int 0, .ref b]), (b, true, .inr .byte, cs.map bt), (ta, false, .inl kS, [.int 0, .ref e]), (e, false, .inr .byte, ds.map bt)]) := by
  refine ct_of pn6 (B := B_rm_eq0) (ls := [.val (.ref sa), .val (.ref ta), .unset]) B_rm_eq0_ok (ew1 hw) (fun m => by first | (simp [entryFrame, mkF, argsToLocals, Value.category]; done) | rfl) (fun K C => ?_)
  refine wp_blk C 0 2 (pc' := 2) (ls' := [.val (.ref sa), .val (.ref ta), .unset]) (st' := [.ref ta, .ref sa]) rfl ?_
  refine wp_ne C 0 2 rfl rfl (by decide) rfl (fun hne => ?_)
  refine wp_acY C 2 7 rfl rfl rfl (by simp [XT.acmp, hne]) rfl (by decide) ?_
  refine wp_blk C 3 1 (pc' := 8) (ls' := [.val (.ref sa), .val (.ref ta), .unset]) (st' := [.ref ta]) rfl ?_
  refine wp_instY C 4 11 2 rfl rfl (wd hw 215 rfl) (wd hw 9 rfl) rfl ?_
  refine wp_ifz C 5 54 14 rfl rfl rfl (by decide) (fun h => absurd h (fun q : (1 : Int32) = 0 => by revert q; decide)) (fun _ => ?_)
  refine wp_blk C 6 1 (pc' := 15) (ls' := [.val (.ref sa), .val (.ref ta), .unset]) (st' := [.ref ta]) rfl ?_
  refine wp_castY C 7 18 2 rfl rfl (wd hw 215 rfl) (wd hw 9 rfl) rfl ?_
  refine wp_blk C 8 1 (pc' := 19) (ls' := [.val (.ref sa), .val (.ref ta), .val (.ref ta)]) (st' := []) rfl ?_
  refine wp_getS C 9 22 rfl rfl (wd hw 14 rfl) Via.refl S1 ?_
  refine wp_ifz C 10 36 25 rfl rfl rfl (by decide) (fun h => absurd h (hcz)) (fun _ => ?_)
  refine wp_blk C 11 1 (pc' := 26) (ls' := [.val (.ref sa), .val (.ref ta), .val (.ref ta)]) (st' := [.ref sa]) rfl ?_
  refine wp_get C 12 29 0 0 rfl rfl (wd hw 26 rfl) Via.refl rfl rfl rfl ?_
  refine wp_blk C 13 1 (pc' := 30) (ls' := [.val (.ref sa), .val (.ref ta), .val (.ref ta)]) (st' := [.ref ta, .int 0]) rfl ?_
  refine wp_get C 14 33 2 0 rfl rfl (wd hw 26 rfl) Via.refl rfl rfl rfl ?_
  refine wp_icmp C 15 54 36 rfl rfl rfl (by decide) (fun h => absurd h (fun q : (0 : Int32) ≠ 0 => q rfl)) (fun _ => ?_)
  refine wp_blk C 16 1 (pc' := 37) (ls' := [.val (.ref sa), .val (.ref ta), .val (.ref ta)]) (st' := [.ref sa]) rfl ?_
  refine wp_get C 17 40 0 1 rfl rfl (wd hw 28 rfl) Via.refl rfl rfl rfl ?_
  refine wp_blk C 18 1 (pc' := 41) (ls' := [.val (.ref sa), .val (.ref ta), .val (.ref ta)]) (st' := [.ref ta, .ref b]) rfl ?_
  refine wp_get C 19 44 2 1 rfl rfl (wd hw 28 rfl) Via.refl rfl rfl rfl ?_
  refine wp_front C 3 (L' := [(e, false, .inr .byte, ds.map bt), (sa, true, .inl kS, [.int 0, .ref b]), (b, true, .inr .byte, cs.map bt), (ta, false, .inl kS, [.int 0, .ref e])]) rfl ?_
  refine wp_front C 2 (L' := [(b, true, .inr .byte, cs.map bt), (e, false, .inr .byte, ds.map bt), (sa, true, .inl kS, [.int 0, .ref b]), (ta, false, .inl kS, [.int 0, .ref e])]) rfl ?_
  refine wp_static C (al := [.ref b, .ref e]) (rest := []) (L1 := [(sa, true, .inl kS, [.int 0, .ref b]), (ta, false, .inl kS, [.int 0, .ref e])]) (W := 0) (cells' := 0) (slots' := 0) 20 47 (rm_leq0 l Z a0 hw b e cs ds hlc hld hc31 hd31) rfl rfl (wd hw 216 rfl) (wd hw 217 rfl) (wd hw 219 rfl) (wd hw 218 rfl) (by decide) pd4 rfl rfl rfl rfl (by decide) (by decide) rfl rfl rfl (by decide) (by decide) (fun v L' hQ => ?_)
  obtain ⟨rfl, rfl⟩ := hQ
  show Wp K 0 0 [(b, true, .inr .byte, cs.map bt), (e, false, .inr .byte, ds.map bt), (sa, true, .inl kS, [.int 0, .ref b]), (ta, false, .inl kS, [.int 0, .ref e])] 47 [.val (.ref sa), .val (.ref ta), .val (.ref ta)] [.int (if cs = ds then 1 else 0)]
  refine wp_front C 1 (L' := [(e, false, .inr .byte, ds.map bt), (b, true, .inr .byte, cs.map bt), (sa, true, .inl kS, [.int 0, .ref b]), (ta, false, .inl kS, [.int 0, .ref e])]) rfl ?_
  refine wp_front C 3 (L' := [(ta, false, .inl kS, [.int 0, .ref e]), (e, false, .inr .byte, ds.map bt), (b, true, .inr .byte, cs.map bt), (sa, true, .inl kS, [.int 0, .ref b])]) rfl ?_
  refine wp_front C 2 (L' := [(b, true, .inr .byte, cs.map bt), (ta, false, .inl kS, [.int 0, .ref e]), (e, false, .inr .byte, ds.map bt), (sa, true, .inl kS, [.int 0, .ref b])]) rfl ?_
  refine wp_front C 3 (L' := [(sa, true, .inl kS, [.int 0, .ref b]), (b, true, .inr .byte, cs.map bt), (ta, false, .inl kS, [.int 0, .ref e]), (e, false, .inr .byte, ds.map bt)]) rfl ?_
  by_cases hcd : cs = ds
  · rw [if_pos hcd]
    refine wp_ifz C 21 54 50 rfl rfl rfl (by decide) (fun h => absurd h (fun q : (1 : Int32) = 0 => by revert q; decide)) (fun _ => ?_)
    refine wp_blk C 22 2 (pc' := 55) (ls' := [.val (.ref sa), .val (.ref ta), .val (.ref ta)]) (st' := [.int 1]) rfl ?_
    exact wp_retN C (z' := 1) 25 rfl (Or.inl rfl) rfl (by decide) (by decide) (⟨by rw [if_pos hcd], rfl⟩)
  · rw [if_neg hcd]
    refine wp_ifz C 21 54 50 rfl rfl rfl (by decide) (fun _ => ?_) (fun h => absurd h (fun q : (0 : Int32) ≠ 0 => q rfl))
    refine wp_blk C 24 1 (pc' := 55) (ls' := [.val (.ref sa), .val (.ref ta), .val (.ref ta)]) (st' := [.int 0]) rfl ?_
    exact wp_retN C (z' := 0) 25 rfl (Or.inl rfl) rfl (by decide) (by decide) (⟨by rw [if_neg hcd], rfl⟩)
theorem pn7 : plainFor (⟨"java/lang/String", "coder", "()B"⟩ : MethodName) = true := by first | (refine plainFor_of_name ?_; simp [plainName, overriddenIn]; done) | (refine plainFor_of_name ?_; decide +kernel) | decide +kernel
def B_rm_sco : Prog := [(0, .getstatic 38, 3), (3, .ifCond .eq 10, 3), (6, .aload_n 0, 1), (7, .getfield 15, 3), (10, .goto 4, 3), (14, .ireturn, 1)]
theorem B_rm_sco_ok : okB jdk_42_method_152_code B_rm_sco = true := by decide +kernel
set_option maxRecDepth 65536 in
set_option maxHeartbeats 40000000 in
theorem rm_sco (l : Launch) (Z : State) (a0 : Array Value) (hw : ∀ d ∈ tables_1, d.before a0 Z = true) (sa b : Addr) (w : Bool) (cz : Int32) (S1 : Sta Z Z.heap "java/lang/String" "COMPACT_STRINGS" "Z" (.int cz)) (hcz : cz ≠ 0) : Ct l Z EL1 nw1 (⟨"java/lang/String", "coder", "()B"⟩ : MethodName) jdk_42_method_152_code 1 (some .byte) [] ({ frames := 0, cells := 0, slots := 0, locals := 0 } : Room) [.ref sa] [(sa, w, .inl kS, [.int 0, .ref b])] (fun v L => v = some (.int 0) ∧ L = [(sa, w, .inl kS, [.int 0, .ref b])]) := by
  refine ct_of pn7 (B := B_rm_sco) (ls := [.val (.ref sa)]) B_rm_sco_ok (ew1 hw) (fun m => by first | (simp [entryFrame, mkF, argsToLocals, Value.category]; done) | rfl) (fun K C => ?_)
  refine wp_getS C 0 3 rfl rfl (wd hw 14 rfl) Via.refl S1 ?_
  refine wp_ifz C 1 13 6 rfl rfl rfl (by decide) (fun h => absurd h (hcz)) (fun _ => ?_)
  refine wp_blk C 2 1 (pc' := 7) (ls' := [.val (.ref sa)]) (st' := [.ref sa]) rfl ?_
  refine wp_get C 3 10 0 0 rfl rfl (wd hw 26 rfl) Via.refl rfl rfl rfl ?_
  refine wp_blk C 4 1 (pc' := 14) (ls' := [.val (.ref sa)]) (st' := [.int 0]) rfl ?_
  exact wp_retN C (z' := 0) 5 rfl (Or.inr (Or.inl rfl)) rfl (by decide) (by decide) (⟨rfl, rfl⟩)
theorem pn8 : plainFor (⟨"java/lang/String", "length", "()I"⟩ : MethodName) = true := by first | (refine plainFor_of_name ?_; simp [plainName, overriddenIn]; done) | (refine plainFor_of_name ?_; decide +kernel) | decide +kernel
theorem pd5 : parseMethodDescriptor "()B" = some ⟨[], (some .byte)⟩ := by decide +kernel
def B_rm_len : Prog := [(0, .aload_n 0, 1), (1, .getfield 9, 3), (4, .arraylength, 1), (5, .aload_n 0, 1), (6, .invokevirtual 335, 3), (9, .ishr, 1), (10, .ireturn, 1)]
theorem B_rm_len_ok : okB jdk_42_method_54_code B_rm_len = true := by decide +kernel
set_option maxRecDepth 65536 in
set_option maxHeartbeats 40000000 in
theorem rm_len (l : Launch) (Z : State) (a0 : Array Value) (hw : ∀ d ∈ tables_1, d.before a0 Z = true) (sa b : Addr) (w : Bool) (u : Bool) (cs : List Int32) (n : Int32) (cz : Int32) (S1 : Sta Z Z.heap "java/lang/String" "COMPACT_STRINGS" "Z" (.int cz)) (hcz : cz ≠ 0) (hn : n.toInt = cs.length) : Ct l Z EL1 nw1 (⟨"java/lang/String", "length", "()I"⟩ : MethodName) jdk_42_method_54_code 1 (some .int) [] ({ frames := 1, cells := 0, slots := 0, locals := 13 } : Room) [.ref sa] [(sa, w, .inl kS, [.int 0, .ref b]), (b, u, .inr .byte, cs.map bt)] (fun v L => v = some (.int n) ∧ L = [(sa, w, .inl kS, [.int 0, .ref b]), (b, u, .inr .byte, cs.map bt)]) := by
  refine ct_of pn8 (B := B_rm_len) (ls := [.val (.ref sa)]) B_rm_len_ok (ew1 hw) (fun m => by first | (simp [entryFrame, mkF, argsToLocals, Value.category]; done) | rfl) (fun K C => ?_)
  refine wp_blk C 0 1 (pc' := 1) (ls' := [.val (.ref sa)]) (st' := [.ref sa]) rfl ?_
  refine wp_get C 1 4 0 1 rfl rfl (wd hw 28 rfl) Via.refl rfl rfl rfl ?_
  refine wp_len C (z := n) 2 5 1 rfl rfl rfl (by rw [List.length_map]; exact len32 hn) ?_
  refine wp_blk C 3 1 (pc' := 6) (ls' := [.val (.ref sa)]) (st' := [.ref sa, .int n]) rfl ?_
  refine wp_virtual C (al := []) (rest := [.int n]) (L1 := [(b, u, .inr .byte, cs.map bt)]) (W := 1) (cells' := 0) (slots' := 0) 4 9 0 (rm_sco l Z a0 hw sa b w cz S1 hcz) rfl rfl rfl (wd hw 75 rfl) (wd hw 76 rfl) (nf_self (wd hw 78 rfl)) (wd hw 78 rfl) (wd hw 77 rfl) (wd hw 79 rfl) (wd hw 2 rfl) (by decide) pd5 rfl rfl rfl rfl (by decide) (by decide) rfl rfl rfl (by decide) (by decide) (fun v L' hQ => ?_)
  obtain ⟨rfl, rfl⟩ := hQ
  show Wp K 0 0 [(sa, w, .inl kS, [.int 0, .ref b]), (b, u, .inr .byte, cs.map bt)] 9 [.val (.ref sa)] [.int 0, .int n]
  refine wp_blk C 5 1 (pc' := 10) (ls' := [.val (.ref sa)]) (st' := [.int (n >>> (0 &&& 31))]) rfl ?_
  exact wp_retI C 6 rfl (by decide) (by decide) (⟨by rw [shr0], rfl⟩)
theorem pn9 : plainFor (⟨"java/lang/Math", "min", "(II)I"⟩ : MethodName) = true := by first | (refine plainFor_of_name ?_; simp [plainName, overriddenIn]; done) | (refine plainFor_of_name ?_; decide +kernel) | decide +kernel
def B_rm_min : Prog := [(0, .iload_n 0, 1), (1, .iload_n 1, 1), (2, .if_icmp .gt 7, 3), (5, .iload_n 0, 1), (6, .goto 4, 3), (9, .iload_n 1, 1), (10, .ireturn, 1)]
theorem B_rm_min_ok : okB jdk_29_method_69_code B_rm_min = true := by decide +kernel
set_option maxRecDepth 65536 in
set_option maxHeartbeats 40000000 in
theorem rm_min (l : Launch) (Z : State) (a0 : Array Value) (hw : ∀ d ∈ tables_1, d.before a0 Z = true) (x z : Int32) : Ct l Z EL1 nw1 (⟨"java/lang/Math", "min", "(II)I"⟩ : MethodName) jdk_29_method_69_code 2 (some .int) [] ({ frames := 0, cells := 0, slots := 0, locals := 0 } : Room) [.int x, .int z] [] (fun v L => v = some (.int (mn x z)) ∧ L = []) := by
  refine ct_of pn9 (B := B_rm_min) (ls := [.val (.int x), .val (.int z)]) B_rm_min_ok (ew1 hw) (fun m => by first | (simp [entryFrame, mkF, argsToLocals, Value.category]; done) | rfl) (fun K C => ?_)
  refine wp_blk C 0 2 (pc' := 2) (ls' := [.val (.int x), .val (.int z)]) (st' := [.int z, .int x]) rfl ?_
  refine wp_icmp C 2 9 5 rfl rfl rfl (by decide) (fun (h : (z : Int32).toInt < (x : Int32).toInt) => ?_) (fun (h : (x : Int32).toInt ≤ (z : Int32).toInt) => ?_)
  · refine wp_blk C 5 1 (pc' := 10) (ls' := [.val (.int x), .val (.int z)]) (st' := [.int z]) rfl ?_
    exact wp_retI C 6 rfl (by decide) (by decide) (⟨by unfold mn; rw [if_neg (by omega)], rfl⟩)
  · refine wp_blk C 3 2 (pc' := 10) (ls' := [.val (.int x), .val (.int z)]) (st' := [.int x]) rfl ?_
    exact wp_retI C 6 rfl (by decide) (by decide) (⟨by unfold mn; rw [if_pos h], rfl⟩)
theorem pn10 : plainFor (⟨"java/util/Arrays", "checkLength", "(II)V"⟩ : MethodName) = true := by first | (refine plainFor_of_name ?_; simp [plainName, overriddenIn]; done) | (refine plainFor_of_name ?_; decide +kernel) | decide +kernel
def B_rm_clen : Prog := [(0, .iload_n 1, 1), (1, .iload_n 0, 1), (2, .if_icmp .ge 35, 3), (37, .return_, 1)]
theorem B_rm_clen_ok : okB jdk_65_method_131_code B_rm_clen = true := by decide +kernel
set_option maxRecDepth 65536 in
set_option maxHeartbeats 40000000 in
theorem rm_clen (l : Launch) (Z : State) (a0 : Array Value) (hw : ∀ d ∈ tables_1, d.before a0 Z = true) (p z : Int32) (h : p.toInt ≤ z.toInt) : Ct l Z EL1 nw1 (⟨"java/util/Arrays", "checkLength", "(II)V"⟩ : MethodName) jdk_65_method_131_code 2 none [] ({ frames := 0, cells := 0, slots := 0, locals := 0 } : Room) [.int p, .int z] [] (fun v L => v = none ∧ L = []) := by
  refine ct_of pn10 (B := B_rm_clen) (ls := [.val (.int p), .val (.int z)]) B_rm_clen_ok (ew1 hw) (fun m => by first | (simp [entryFrame, mkF, argsToLocals, Value.category]; done) | rfl) (fun K C => ?_)
  refine wp_blk C 0 2 (pc' := 2) (ls' := [.val (.int p), .val (.int z)]) (st' := [.int p, .int z]) rfl ?_
  refine wp_icmp C 2 37 5 rfl rfl rfl (by decide) (fun _ => ?_) (fun h => absurd h (fun q : z.toInt < p.toInt => by omega))
  exact wp_ret0 C 3 rfl (by decide) (by decide) (⟨rfl, rfl⟩)
theorem pn11 : plainFor (⟨"java/util/Arrays", "copyOfRangeByte", "([BII)[B"⟩ : MethodName) = true := by first | (refine plainFor_of_name ?_; simp [plainName, overriddenIn]; done) | (refine plainFor_of_name ?_; decide +kernel) | decide +kernel
theorem pd6 : parseMethodDescriptor "(II)V" = some ⟨[.int, .int], none⟩ := by decide +kernel
theorem pd7 : parseMethodDescriptor "(II)I" = some ⟨[.int, .int], (some .int)⟩ := by decide +kernel
def B_rm_corb : Prog := [(0, .iload_n 1, 1), (1, .iload_n 2, 1), (2, .invokestatic 343, 3), (5, .iload_n 2, 1), (6, .iload_n 1, 1), (7, .isub, 1), (8, .istore_n 3, 1), (9, .iload_n 3, 1), (10, .newarray .byte, 2), (12, .astore 4, 2), (14, .aload_n 0, 1), (15, .iload_n 1, 1), (16, .aload 4, 2), (18, .iconst 0, 1), (19, .aload_n 0, 1), (20, .arraylength, 1), (21, .iload_n 1, 1), (22, .isub, 1), (23, .iload_n 3, 1), (24, .invokestatic 304, 3), (27, .invokestatic 150, 3), (30, .aload 4, 2), (32, .areturn, 1)]
theorem B_rm_corb_ok : okB jdk_65_method_133_code B_rm_corb = true := by decide +kernel
set_option maxRecDepth 65536 in
set_option maxHeartbeats 40000000 in
theorem rm_corb (l : Launch) (Z : State) (a0 : Array Value) (hw : ∀ d ∈ tables_1, d.before a0 Z = true) (b : Addr) (cs : List Int32) (p z : Int32) (s k : Nat) (hp : p.toInt = s) (hz : z.toInt = (s + k : Nat)) (hl : s + k ≤ cs.length) (hcap : cs.length ≤ 16) : Ct l Z EL1 nw1 (⟨"java/util/Arrays", "copyOfRangeByte", "([BII)[B"⟩ : MethodName) jdk_65_method_133_code 5 (some (.array .byte)) [] ({ frames := 1, cells := 1, slots := 16, locals := 18 } : Room) [.ref b, .int p, .int z] [(b, true, .inr .byte, cs.map bt)] (fun v L => ∃ rb : Addr, v = some (.ref rb) ∧ L = [(rb, true, .inr .byte, ((cs.drop s).take k).map bt), (b, true, .inr .byte, cs.map bt)]) := by
  refine ct_of pn11 (B := B_rm_corb) (ls := [.val (.ref b), .val (.int p), .val (.int z), .unset, .unset]) B_rm_corb_ok (ew1 hw) (fun m => by first | (simp [entryFrame, mkF, argsToLocals, Value.category]; done) | rfl) (fun K C => ?_)
  obtain ⟨n, hnn⟩ : ∃ n : Int32, cs.length.toInt32 = n := ⟨_, rfl⟩
  have hn : n.toInt = cs.length := by rw [← hnn]; exact len_toInt (by omega)
  refine wp_blk C 0 2 (pc' := 2) (ls' := [.val (.ref b), .val (.int p), .val (.int z), .unset, .unset]) (st' := [.int z, .int p]) rfl ?_
  refine wp_static C (al := [.int p, .int z]) (rest := []) (L1 := [(b, true, .inr .byte, cs.map bt)]) (W := 0) (cells' := 0) (slots' := 0) 2 5 (rm_clen l Z a0 hw p z (by omega)) rfl rfl (wd hw 145 rfl) (wd hw 146 rfl) (wd hw 147 rfl) (wd hw 140 rfl) (by decide) pd6 rfl rfl rfl rfl (by decide) (by decide) rfl rfl rfl (by decide) (by decide) (fun v L' hQ => ?_)
  obtain ⟨rfl, rfl⟩ := hQ
  show Wp K 0 0 [(b, true, .inr .byte, cs.map bt)] 5 [.val (.ref b), .val (.int p), .val (.int z), .unset, .unset] []
  refine wp_blk C 3 4 (pc' := 9) (ls' := [.val (.ref b), .val (.int p), .val (.int z), .val (.int (z - p)), .unset]) (st' := []) rfl ?_
  obtain ⟨m, hm⟩ : ∃ nn0 : Int32, nn0 = z - p := ⟨_, rfl⟩
  rw [← hm]
  have Hm : m.toInt = k := by rw [hm, subI hz hp]; omega
  refine wp_blk C 7 1 (pc' := 10) (ls' := [.val (.ref b), .val (.int p), .val (.int z), .val (.int m), .unset]) (st' := [.int m]) rfl ?_
  refine wp_newA C (n := k) (cap := 16) (cells' := 1) (slots' := 16) (vs := List.replicate k (.int 0)) 8 12 rfl rfl (wd hw 19 rfl) Hm (by omega) (by decide) rfl rfl (by decide) (by decide) rfl (fun rb => ?_)
  refine wp_blk C 9 6 (pc' := 20) (ls' := [.val (.ref b), .val (.int p), .val (.int z), .val (.int m), .val (.ref rb)]) (st' := [.ref b, .int 0, .ref rb, .int p, .ref b]) rfl ?_
  refine wp_len C (z := n) 15 21 1 rfl rfl rfl (by rw [List.length_map]; exact hnn) ?_
  refine wp_blk C 16 2 (pc' := 23) (ls' := [.val (.ref b), .val (.int p), .val (.int z), .val (.int m), .val (.ref rb)]) (st' := [.int (n - p), .int 0, .ref rb, .int p, .ref b]) rfl ?_
  obtain ⟨r, hr⟩ : ∃ nn0 : Int32, nn0 = n - p := ⟨_, rfl⟩
  rw [← hr]
  have Hr : r.toInt = (cs.length - s : Nat) := by rw [hr, subI hn hp]; omega
  refine wp_blk C 18 1 (pc' := 24) (ls' := [.val (.ref b), .val (.int p), .val (.int z), .val (.int m), .val (.ref rb)]) (st' := [.int m, .int r, .int 0, .ref rb, .int p, .ref b]) rfl ?_
  refine wp_static C (al := [.int r, .int m]) (rest := [.int 0, .ref rb, .int p, .ref b]) (L1 := [(rb, true, .inr .byte, List.replicate k (.int 0)), (b, true, .inr .byte, cs.map bt)]) (W := 4) (cells' := 1) (slots' := 16) 19 27 (rm_min l Z a0 hw r m) rfl rfl (wd hw 148 rfl) (wd hw 149 rfl) (wd hw 151 rfl) (wd hw 150 rfl) (by decide) pd7 rfl rfl rfl rfl (by decide) (by decide) rfl rfl rfl (by decide) (by decide) (fun v L' hQ => ?_)
  obtain ⟨rfl, rfl⟩ := hQ
  show Wp K 1 16 [(rb, true, .inr .byte, List.replicate k (.int 0)), (b, true, .inr .byte, cs.map bt)] 27 [.val (.ref b), .val (.int p), .val (.int z), .val (.int m), .val (.ref rb)] [.int (mn r m), .int 0, .ref rb, .int p, .ref b]
  rw [mn_right (x := r) (z := m) (by omega)]
  refine wp_copy C (ns := s) (nd := 0) (n := k) (vd' := ((cs.drop s).take k).map bt) (L' := [(rb, true, .inr .byte, ((cs.drop s).take k).map bt), (b, true, .inr .byte, cs.map bt)]) (W := 0) 20 30 1 0 rfl rfl (wd hw 152 rfl) (wd hw 106 rfl) (wd hw 104 rfl) (wd hw 105 rfl) rfl rfl rfl hp rfl Hm (by rw [List.length_map]; exact hl) (by simp) slice_bt rfl (by decide) rfl (by decide +kernel) rfl ?_
  refine wp_blk C 21 1 (pc' := 32) (ls' := [.val (.ref b), .val (.int p), .val (.int z), .val (.int m), .val (.ref rb)]) (st' := [.ref rb]) rfl ?_
  exact wp_retA C 22 rfl rfl rfl (by decide) (by decide) (⟨rb, rfl, rfl⟩)
theorem pn12 : plainFor (⟨"java/util/Arrays", "copyOfRange", "([BII)[B"⟩ : MethodName) = true := by first | (refine plainFor_of_name ?_; simp [plainName, overriddenIn]; done) | (refine plainFor_of_name ?_; decide +kernel) | decide +kernel
theorem pd8 : parseMethodDescriptor "([BII)[B" = some ⟨[(.array .byte), .int, .int], (some (.array .byte))⟩ := by decide +kernel
def B_rm_cor : Prog := [(0, .iload_n 1, 1), (1, .ifCond .ne 9, 3), (4, .iload_n 2, 1), (5, .aload_n 0, 1), (6, .arraylength, 1), (7, .if_icmp .eq 10, 3), (10, .aload_n 0, 1), (11, .iload_n 1, 1), (12, .iload_n 2, 1), (13, .invokestatic 339, 3), (16, .areturn, 1)]
theorem B_rm_cor_ok : okB jdk_65_method_132_code B_rm_cor = true := by decide +kernel
set_option maxRecDepth 65536 in
set_option maxHeartbeats 40000000 in
theorem rm_cor (l : Launch) (Z : State) (a0 : Array Value) (hw : ∀ d ∈ tables_1, d.before a0 Z = true) (b : Addr) (cs : List Int32) (p z : Int32) (s k : Nat) (hp : p.toInt = s) (hz : z.toInt = (s + k : Nat)) (hl : s + k ≤ cs.length) (hcap : cs.length ≤ 16) (hno : s ≠ 0 ∨ s + k ≠ cs.length) : Ct l Z EL1 nw1 (⟨"java/util/Arrays", "copyOfRange", "([BII)[B"⟩ : MethodName) jdk_65_method_132_code 3 (some (.array .byte)) [] ({ frames := 2, cells := 1, slots := 16, locals := 34 } : Room) [.ref b, .int p, .int z] [(b, true, .inr .byte, cs.map bt)] (fun v L => ∃ rb : Addr, v = some (.ref rb) ∧ L = [(rb, true, .inr .byte, ((cs.drop s).take k).map bt), (b, true, .inr .byte, cs.map bt)]) := by
  refine ct_of pn12 (B := B_rm_cor) (ls := [.val (.ref b), .val (.int p), .val (.int z)]) B_rm_cor_ok (ew1 hw) (fun m => by first | (simp [entryFrame, mkF, argsToLocals, Value.category]; done) | rfl) (fun K C => ?_)
  obtain ⟨n, hnn⟩ : ∃ n : Int32, cs.length.toInt32 = n := ⟨_, rfl⟩
  have hn : n.toInt = cs.length := by rw [← hnn]; exact len_toInt (by omega)
  have J10 : Wp K 0 0 [(b, true, .inr .byte, cs.map bt)] 10 [.val (.ref b), .val (.int p), .val (.int z)] [] := by
    refine wp_blk C 6 3 (pc' := 13) (ls' := [.val (.ref b), .val (.int p), .val (.int z)]) (st' := [.int z, .int p, .ref b]) rfl ?_
    refine wp_static C (al := [.ref b, .int p, .int z]) (rest := []) (L1 := []) (W := 0) (cells' := 1) (slots' := 16) 9 16 (rm_corb l Z a0 hw b cs p z s k hp hz hl hcap) rfl rfl (wd hw 142 rfl) (wd hw 143 rfl) (wd hw 144 rfl) (wd hw 140 rfl) (by decide) pd8 rfl rfl rfl rfl (by decide) (by decide) rfl rfl rfl (by decide) (by decide) (fun v L' hQ => ?_)
    obtain ⟨rb, rfl, rfl⟩ := hQ
    show Wp K 1 16 [(rb, true, .inr .byte, ((cs.drop s).take k).map bt), (b, true, .inr .byte, cs.map bt)] 16 [.val (.ref b), .val (.int p), .val (.int z)] [.ref rb]
    exact wp_retA C 10 rfl rfl rfl (by decide) (by decide) (⟨rb, rfl, rfl⟩)
  refine wp_blk C 0 1 (pc' := 1) (ls' := [.val (.ref b), .val (.int p), .val (.int z)]) (st' := [.int p]) rfl ?_
  refine wp_ifz C 1 10 4 rfl rfl rfl (by decide) (fun (h1 : (p : Int32) ≠ 0) => ?_) (fun (h1 : (p : Int32) = 0) => ?_)
  · exact J10
  · refine wp_blk C 2 2 (pc' := 6) (ls' := [.val (.ref b), .val (.int p), .val (.int z)]) (st' := [.ref b, .int z]) rfl ?_
    refine wp_len C (z := n) 4 7 0 rfl rfl rfl (by rw [List.length_map]; exact hnn) ?_
    refine wp_icmp C 5 17 10 rfl rfl rfl (by decide) (fun h => absurd h (fun q : z = n => by rw [h1, zero32] at hp; rw [q] at hz; omega)) (fun _ => ?_)
    exact J10
def sbv (cs : List Int32) : List Int32 := cs ++ List.replicate (16 - cs.length) 0
theorem sbv_len {cs : List Int32} (h : cs.length ≤ 16) : (sbv cs).length = 16 := by unfold sbv; simp; omega
theorem sbv_take {cs : List Int32} : ((sbv cs).drop 0).take cs.length = cs := by unfold sbv; simp
theorem sbv_nil : List.replicate 16 (Value.int 0) = (sbv []).map bt := rfl
theorem sbv_put {cs ds : List Int32} (h : cs.length + ds.length ≤ 16) : ((sbv cs).map bt).take cs.length ++ ((ds.map bt).drop 0).take ds.length ++ ((sbv cs).map bt).drop (cs.length + ds.length) = (sbv (cs ++ ds)).map bt := by
  unfold sbv
  simp only [List.map_append, List.map_replicate, List.drop_zero, List.length_append]
  rw [List.take_left' (by simp), List.take_of_length_le (by simp), List.drop_append, List.drop_eq_nil_of_le (by simp)]
  simp only [List.nil_append, List.drop_replicate, List.length_map]
  rw [show 16 - cs.length - (cs.length + ds.length - cs.length) = 16 - (cs.length + ds.length) by omega]
theorem shl0 (n : Int32) : n <<< ((0 : Int32) &&& 31) = n := by
  rw [show ((0 : Int32) &&& 31) = 0 from rfl]; simp
theorem nar_ite {P : Prop} [Decidable P] : nar .boolean (if P then 1 else 0) = (if P then 1 else 0 : Int32) := by split <;> rfl
def kSB : Kd := ("java/lang/StringBuilder", [("java/lang/AbstractStringBuilder", "value", "[B"), ("java/lang/AbstractStringBuilder", "coder", "B"), ("java/lang/AbstractStringBuilder", "count", "I")])
theorem kSB_ok {Z : State} {a0 : Array Value} (hw : ∀ d ∈ tables_1, d.before a0 Z = true) : KOk Z a0 kSB := ⟨⟨⟨Or.inl (wd hw 54 rfl), by decide +kernel⟩, ⟨⟨Or.inl (wd hw 56 rfl), by decide +kernel⟩, ⟨⟨Or.inl (wd hw 81 rfl), by decide +kernel⟩, trivial⟩⟩⟩, by decide +kernel⟩
theorem kSB_df : defs kSB = [.null, .int 0, .int 0] := by decide +kernel
theorem pn13 : plainFor (⟨"java/lang/AbstractStringBuilder", "<init>", "(I)V"⟩ : MethodName) = true := by first | (refine plainFor_of_name ?_; simp [plainName, overriddenIn]; done) | (refine plainFor_of_name ?_; decide +kernel) | decide +kernel
def B_rm_asbi : Prog := [(0, .aload_n 0, 1), (1, .invokespecial 3, 3), (4, .getstatic 18, 3), (7, .ifCond .eq 18, 3), (10, .aload_n 0, 1), (11, .iload_n 1, 1), (12, .newarray .byte, 2), (14, .putfield 15, 3), (17, .aload_n 0, 1), (18, .iconst 0, 1), (19, .putfield 22, 3), (22, .goto 16, 3), (38, .return_, 1)]
theorem B_rm_asbi_ok : okB jdk_68_method_2_code B_rm_asbi = true := by decide +kernel
set_option maxRecDepth 65536 in
set_option maxHeartbeats 40000000 in
theorem rm_asbi (l : Launch) (Z : State) (a0 : Array Value) (hw : ∀ d ∈ tables_1, d.before a0 Z = true) (ba : Addr) (cz : Int32) (S1 : Sta Z Z.heap "java/lang/String" "COMPACT_STRINGS" "Z" (.int cz)) (hcz : cz ≠ 0) : Ct l Z EL1 nw1 (⟨"java/lang/AbstractStringBuilder", "<init>", "(I)V"⟩ : MethodName) jdk_68_method_2_code 2 none [] ({ frames := 1, cells := 1, slots := 16, locals := 12 } : Room) [.ref ba, .int 16] [(ba, true, .inl kSB, [.null, .int 0, .int 0])] (fun v L => v = none ∧ ∃ vb : Addr, L = [(ba, true, .inl kSB, [.ref vb, .int 0, .int 0]), (vb, true, .inr .byte, (sbv ([])).map bt)]) := by
  refine ct_of pn13 (B := B_rm_asbi) (ls := [.val (.ref ba), .val (.int 16)]) B_rm_asbi_ok (ew1 hw) (fun m => by first | (simp [entryFrame, mkF, argsToLocals, Value.category]; done) | rfl) (fun K C => ?_)
  refine wp_blk C 0 1 (pc' := 1) (ls' := [.val (.ref ba), .val (.int 16)]) (st' := [.ref ba]) rfl ?_
  refine wp_initO C (W := 0) 1 4 rfl rfl (wd hw 51 rfl) (wd hw 12 rfl) (wd hw 13 rfl) (by decide) rfl (by decide) rfl ?_
  refine wp_getS C 2 7 rfl rfl (wd hw 52 rfl) Via.refl S1 ?_
  refine wp_ifz C 3 25 10 rfl rfl rfl (by decide) (fun h => absurd h (hcz)) (fun _ => ?_)
  refine wp_blk C 4 2 (pc' := 12) (ls' := [.val (.ref ba), .val (.int 16)]) (st' := [.int 16, .ref ba]) rfl ?_
  refine wp_newA C (n := 16) (cap := 16) (cells' := 1) (slots' := 16) (vs := List.replicate 16 (.int 0)) 6 14 rfl rfl (wd hw 19 rfl) rfl (by decide) (by decide) rfl rfl (by decide) (by decide) rfl (fun vb => ?_)
  rw [sbv_nil]
  refine wp_put C (ty := (.array .byte)) (v := .ref vb) (vs' := [.ref vb, .int 0, .int 0]) (L' := [(vb, true, .inr .byte, (sbv []).map bt), (ba, true, .inl kSB, [.ref vb, .int 0, .int 0])]) 7 17 1 0 rfl rfl (wd hw 53 rfl) Via.refl (Or.inl (wd hw 54 rfl)) (wd hw 40 rfl) (kSB_ok hw) fd1 rfl rfl rfl rfl rfl rfl rfl ?_
  refine wp_blk C 8 2 (pc' := 19) (ls' := [.val (.ref ba), .val (.int 16)]) (st' := [.int 0, .ref ba]) rfl ?_
  refine wp_put C (ty := .byte) (v := .int 0) (vs' := [.ref vb, .int 0, .int 0]) (L' := [(vb, true, .inr .byte, (sbv []).map bt), (ba, true, .inl kSB, [.ref vb, .int 0, .int 0])]) 10 22 1 1 rfl rfl (wd hw 55 rfl) Via.refl (Or.inl (wd hw 56 rfl)) (wd hw 40 rfl) (kSB_ok hw) fd0 rfl rfl rfl rfl rfl rfl rfl ?_
  refine wp_blk C 11 1 (pc' := 38) (ls' := [.val (.ref ba), .val (.int 16)]) (st' := []) rfl ?_
  refine wp_front C 1 (L' := [(ba, true, .inl kSB, [.ref vb, .int 0, .int 0]), (vb, true, .inr .byte, (sbv []).map bt)]) rfl ?_
  exact wp_ret0 C 12 rfl (by decide) (by decide) (⟨rfl, vb, rfl⟩)
theorem pn14 : plainFor (⟨"java/lang/StringBuilder", "<init>", "()V"⟩ : MethodName) = true := by first | (refine plainFor_of_name ?_; simp [plainName, overriddenIn]; done) | (refine plainFor_of_name ?_; decide +kernel) | decide +kernel
theorem pd9 : parseMethodDescriptor "(I)V" = some ⟨[.int], none⟩ := by decide +kernel
def B_rm_sbi : Prog := [(0, .aload_n 0, 1), (1, .bipush 16, 2), (3, .invokespecial 1, 3), (6, .return_, 1)]
theorem B_rm_sbi_ok : okB jdk_67_method_1_code B_rm_sbi = true := by decide +kernel
set_option maxRecDepth 65536 in
set_option maxHeartbeats 40000000 in
theorem rm_sbi (l : Launch) (Z : State) (a0 : Array Value) (hw : ∀ d ∈ tables_1, d.before a0 Z = true) (ba : Addr) (cz : Int32) (S1 : Sta Z Z.heap "java/lang/String" "COMPACT_STRINGS" "Z" (.int cz)) (hcz : cz ≠ 0) : Ct l Z EL1 nw1 (⟨"java/lang/StringBuilder", "<init>", "()V"⟩ : MethodName) jdk_67_method_1_code 1 none [] ({ frames := 2, cells := 1, slots := 16, locals := 25 } : Room) [.ref ba] [(ba, true, .inl kSB, [.null, .int 0, .int 0])] (fun v L => v = none ∧ ∃ vb : Addr, L = [(ba, true, .inl kSB, [.ref vb, .int 0, .int 0]), (vb, true, .inr .byte, (sbv ([])).map bt)]) := by
  refine ct_of pn14 (B := B_rm_sbi) (ls := [.val (.ref ba)]) B_rm_sbi_ok (ew1 hw) (fun m => by first | (simp [entryFrame, mkF, argsToLocals, Value.category]; done) | rfl) (fun K C => ?_)
  refine wp_blk C 0 2 (pc' := 3) (ls' := [.val (.ref ba)]) (st' := [.int 16, .ref ba]) rfl ?_
  refine wp_init C (al := [.int 16]) (rest := []) (L1 := []) (W := 0) (cells' := 1) (slots' := 16) 2 6 (rm_asbi l Z a0 hw ba cz S1 hcz) rfl rfl (wd hw 45 rfl) (wd hw 46 rfl) (wd hw 50 rfl) (wd hw 49 rfl) rfl (by decide) pd9 rfl rfl rfl rfl (by decide) (by decide) rfl rfl rfl (by decide) (by decide) (fun v L' hQ => ?_)
  obtain ⟨rfl, vb, rfl⟩ := hQ
  show Wp K 1 16 [(ba, true, .inl kSB, [.ref vb, .int 0, .int 0]), (vb, true, .inr .byte, (sbv ([])).map bt)] 6 [.val (.ref ba)] []
  exact wp_ret0 C 3 rfl (by decide) (by decide) (⟨rfl, vb, rfl⟩)
theorem pn15 : plainFor (⟨"java/lang/AbstractStringBuilder", "ensureCapacityInternal", "(I)V"⟩ : MethodName) = true := by first | (refine plainFor_of_name ?_; simp [plainName, overriddenIn]; done) | (refine plainFor_of_name ?_; decide +kernel) | decide +kernel
def B_rm_ens : Prog := [(0, .aload_n 0, 1), (1, .getfield 15, 3), (4, .arraylength, 1), (5, .aload_n 0, 1), (6, .getfield 22, 3), (9, .ishr, 1), (10, .istore_n 2, 1), (11, .iload_n 1, 1), (12, .iload_n 2, 1), (13, .isub, 1), (14, .ifCond .le 24, 3), (38, .return_, 1)]
theorem B_rm_ens_ok : okB jdk_68_method_9_code B_rm_ens = true := by decide +kernel
set_option maxRecDepth 65536 in
set_option maxHeartbeats 40000000 in
theorem rm_ens (l : Launch) (Z : State) (a0 : Array Value) (hw : ∀ d ∈ tables_1, d.before a0 Z = true) (ba vb : Addr) (cs : List Int32) (cn m : Int32) (a : Nat) (hcs : cs.length ≤ 16) (hm : m.toInt = a) (ha : a ≤ 16) : Ct l Z EL1 nw1 (⟨"java/lang/AbstractStringBuilder", "ensureCapacityInternal", "(I)V"⟩ : MethodName) jdk_68_method_9_code 3 none [] ({ frames := 0, cells := 0, slots := 0, locals := 0 } : Room) [.ref ba, .int m] [(ba, true, .inl kSB, [.ref vb, .int 0, .int cn]), (vb, true, .inr .byte, (sbv cs).map bt)] (fun v L => v = none ∧ L = [(ba, true, .inl kSB, [.ref vb, .int 0, .int cn]), (vb, true, .inr .byte, (sbv cs).map bt)]) := by
  refine ct_of pn15 (B := B_rm_ens) (ls := [.val (.ref ba), .val (.int m), .unset]) B_rm_ens_ok (ew1 hw) (fun m => by first | (simp [entryFrame, mkF, argsToLocals, Value.category]; done) | rfl) (fun K C => ?_)
  refine wp_blk C 0 1 (pc' := 1) (ls' := [.val (.ref ba), .val (.int m), .unset]) (st' := [.ref ba]) rfl ?_
  refine wp_get C 1 4 0 0 rfl rfl (wd hw 53 rfl) Via.refl rfl rfl rfl ?_
  obtain ⟨n, hn⟩ : ∃ n : Int32, n = 16 := ⟨_, rfl⟩
  have hn16 : n.toInt = 16 := by rw [hn]; rfl
  refine wp_len C (z := n) 2 5 1 rfl rfl rfl (by rw [List.length_map, sbv_len hcs, hn]; rfl) ?_
  refine wp_blk C 3 1 (pc' := 6) (ls' := [.val (.ref ba), .val (.int m), .unset]) (st' := [.ref ba, .int n]) rfl ?_
  refine wp_get C 4 9 0 1 rfl rfl (wd hw 55 rfl) Via.refl rfl rfl rfl ?_
  refine wp_blk C 5 2 (pc' := 11) (ls' := [.val (.ref ba), .val (.int m), .val (.int (n >>> (0 &&& 31)))]) (st' := []) rfl ?_
  rw [shr0]
  refine wp_blk C 7 3 (pc' := 14) (ls' := [.val (.ref ba), .val (.int m), .val (.int n)]) (st' := [.int (m - n)]) rfl ?_
  obtain ⟨d, hd⟩ : ∃ nn0 : Int32, nn0 = m - n := ⟨_, rfl⟩
  rw [← hd]
  have Hd : d.toInt = a - 16 := by rw [hd]; exact subI hm hn16
  refine wp_ifz C 10 38 17 rfl rfl rfl (by decide) (fun _ => ?_) (fun h => absurd h (fun q : (0 : Int32).toInt < d.toInt => by rw [zero32] at q; omega))
  exact wp_ret0 C 11 rfl (by decide) (by decide) (⟨rfl, rfl⟩)
theorem pn16 : plainFor (⟨"java/lang/AbstractStringBuilder", "inflateIfNeededFor", "(Ljava/lang/String;)V"⟩ : MethodName) = true := by first | (refine plainFor_of_name ?_; simp [plainName, overriddenIn]; done) | (refine plainFor_of_name ?_; decide +kernel) | decide +kernel
def B_rm_inf : Prog := [(0, .getstatic 18, 3), (3, .ifCond .eq 18, 3), (6, .aload_n 0, 1), (7, .getfield 22, 3), (10, .aload_n 1, 1), (11, .invokevirtual 40, 3), (14, .if_icmp .eq 7, 3), (21, .return_, 1)]
theorem B_rm_inf_ok : okB jdk_68_method_71_code B_rm_inf = true := by decide +kernel
set_option maxRecDepth 65536 in
set_option maxHeartbeats 40000000 in
theorem rm_inf (l : Launch) (Z : State) (a0 : Array Value) (hw : ∀ d ∈ tables_1, d.before a0 Z = true) (ba vb sa b : Addr) (w : Bool) (cn : Int32) (cz : Int32) (S1 : Sta Z Z.heap "java/lang/String" "COMPACT_STRINGS" "Z" (.int cz)) (hcz : cz ≠ 0) : Ct l Z EL1 nw1 (⟨"java/lang/AbstractStringBuilder", "inflateIfNeededFor", "(Ljava/lang/String;)V"⟩ : MethodName) jdk_68_method_71_code 2 none [] ({ frames := 1, cells := 0, slots := 0, locals := 13 } : Room) [.ref ba, .ref sa] [(ba, true, .inl kSB, [.ref vb, .int 0, .int cn]), (sa, w, .inl kS, [.int 0, .ref b])] (fun v L => v = none ∧ L = [(ba, true, .inl kSB, [.ref vb, .int 0, .int cn]), (sa, w, .inl kS, [.int 0, .ref b])]) := by
  refine ct_of pn16 (B := B_rm_inf) (ls := [.val (.ref ba), .val (.ref sa)]) B_rm_inf_ok (ew1 hw) (fun m => by first | (simp [entryFrame, mkF, argsToLocals, Value.category]; done) | rfl) (fun K C => ?_)
  refine wp_getS C 0 3 rfl rfl (wd hw 52 rfl) Via.refl S1 ?_
  refine wp_ifz C 1 21 6 rfl rfl rfl (by decide) (fun h => absurd h (hcz)) (fun _ => ?_)
  refine wp_blk C 2 1 (pc' := 7) (ls' := [.val (.ref ba), .val (.ref sa)]) (st' := [.ref ba]) rfl ?_
  refine wp_get C 3 10 0 1 rfl rfl (wd hw 55 rfl) Via.refl rfl rfl rfl ?_
  refine wp_blk C 4 1 (pc' := 11) (ls' := [.val (.ref ba), .val (.ref sa)]) (st' := [.ref sa, .int 0]) rfl ?_
  refine wp_front C 1 (L' := [(sa, w, .inl kS, [.int 0, .ref b]), (ba, true, .inl kSB, [.ref vb, .int 0, .int cn])]) rfl ?_
  refine wp_virtual C (al := []) (rest := [.int 0]) (L1 := [(ba, true, .inl kSB, [.ref vb, .int 0, .int cn])]) (W := 1) (cells' := 0) (slots' := 0) 5 14 0 (rm_sco l Z a0 hw sa b w cz S1 hcz) rfl rfl rfl (wd hw 97 rfl) (wd hw 76 rfl) (nf_self (wd hw 78 rfl)) (wd hw 78 rfl) (wd hw 77 rfl) (wd hw 79 rfl) (wd hw 2 rfl) (by decide) pd5 rfl rfl rfl rfl (by decide) (by decide) rfl rfl rfl (by decide) (by decide) (fun v L' hQ => ?_)
  obtain ⟨rfl, rfl⟩ := hQ
  show Wp K 0 0 [(sa, w, .inl kS, [.int 0, .ref b]), (ba, true, .inl kSB, [.ref vb, .int 0, .int cn])] 14 [.val (.ref ba), .val (.ref sa)] [.int 0, .int 0]
  refine wp_icmp C 6 21 17 rfl rfl rfl (by decide) (fun _ => ?_) (fun h => absurd h (fun q : (0 : Int32) ≠ 0 => absurd q (by decide)))
  refine wp_front C 1 (L' := [(ba, true, .inl kSB, [.ref vb, .int 0, .int cn]), (sa, w, .inl kS, [.int 0, .ref b])]) rfl ?_
  exact wp_ret0 C 7 rfl (by decide) (by decide) (⟨rfl, rfl⟩)
theorem pn17 : plainFor (⟨"java/lang/String", "getBytes", "([BIB)V"⟩ : MethodName) = true := by first | (refine plainFor_of_name ?_; simp [plainName, overriddenIn]; done) | (refine plainFor_of_name ?_; decide +kernel) | decide +kernel
def B_rm_gby : Prog := [(0, .aload_n 0, 1), (1, .invokevirtual 335, 3), (4, .iload_n 3, 1), (5, .if_icmp .ne 23, 3), (8, .aload_n 0, 1), (9, .getfield 9, 3), (12, .iconst 0, 1), (13, .aload_n 1, 1), (14, .iload_n 2, 1), (15, .iload_n 3, 1), (16, .ishl, 1), (17, .aload_n 0, 1), (18, .getfield 9, 3), (21, .arraylength, 1), (22, .invokestatic 212, 3), (25, .goto 18, 3), (43, .return_, 1)]
theorem B_rm_gby_ok : okB jdk_42_method_147_code B_rm_gby = true := by decide +kernel
set_option maxRecDepth 65536 in
set_option maxHeartbeats 40000000 in
theorem rm_gby (l : Launch) (Z : State) (a0 : Array Value) (hw : ∀ d ∈ tables_1, d.before a0 Z = true) (sa b vb : Addr) (w u : Bool) (cs ds : List Int32) (p n : Int32) (cz : Int32) (S1 : Sta Z Z.heap "java/lang/String" "COMPACT_STRINGS" "Z" (.int cz)) (hcz : cz ≠ 0) (hp : p.toInt = cs.length) (hn : n.toInt = ds.length) (h16 : cs.length + ds.length ≤ 16) : Ct l Z EL1 nw1 (⟨"java/lang/String", "getBytes", "([BIB)V"⟩ : MethodName) jdk_42_method_147_code 4 none [] ({ frames := 1, cells := 0, slots := 0, locals := 18 } : Room) [.ref sa, .ref vb, .int p, .int 0] [(sa, w, .inl kS, [.int 0, .ref b]), (b, u, .inr .byte, ds.map bt), (vb, true, .inr .byte, (sbv cs).map bt)] (fun v L => v = none ∧ L = [(sa, w, .inl kS, [.int 0, .ref b]), (b, u, .inr .byte, ds.map bt), (vb, true, .inr .byte, (sbv (cs ++ ds)).map bt)]) := by
  refine ct_of pn17 (B := B_rm_gby) (ls := [.val (.ref sa), .val (.ref vb), .val (.int p), .val (.int 0)]) B_rm_gby_ok (ew1 hw) (fun m => by first | (simp [entryFrame, mkF, argsToLocals, Value.category]; done) | rfl) (fun K C => ?_)
  refine wp_blk C 0 1 (pc' := 1) (ls' := [.val (.ref sa), .val (.ref vb), .val (.int p), .val (.int 0)]) (st' := [.ref sa]) rfl ?_
  refine wp_virtual C (al := []) (rest := []) (L1 := [(b, u, .inr .byte, ds.map bt), (vb, true, .inr .byte, (sbv cs).map bt)]) (W := 0) (cells' := 0) (slots' := 0) 1 4 0 (rm_sco l Z a0 hw sa b w cz S1 hcz) rfl rfl rfl (wd hw 75 rfl) (wd hw 76 rfl) (nf_self (wd hw 78 rfl)) (wd hw 78 rfl) (wd hw 77 rfl) (wd hw 79 rfl) (wd hw 2 rfl) (by decide) pd5 rfl rfl rfl rfl (by decide) (by decide) rfl rfl rfl (by decide) (by decide) (fun v L' hQ => ?_)
  obtain ⟨rfl, rfl⟩ := hQ
  show Wp K 0 0 [(sa, w, .inl kS, [.int 0, .ref b]), (b, u, .inr .byte, ds.map bt), (vb, true, .inr .byte, (sbv cs).map bt)] 4 [.val (.ref sa), .val (.ref vb), .val (.int p), .val (.int 0)] [.int 0]
  refine wp_blk C 2 1 (pc' := 5) (ls' := [.val (.ref sa), .val (.ref vb), .val (.int p), .val (.int 0)]) (st' := [.int 0, .int 0]) rfl ?_
  refine wp_icmp C 3 28 8 rfl rfl rfl (by decide) (fun h => absurd h (fun q : (0 : Int32) ≠ 0 => absurd q (by decide))) (fun _ => ?_)
  refine wp_blk C 4 1 (pc' := 9) (ls' := [.val (.ref sa), .val (.ref vb), .val (.int p), .val (.int 0)]) (st' := [.ref sa]) rfl ?_
  refine wp_get C 5 12 0 1 rfl rfl (wd hw 28 rfl) Via.refl rfl rfl rfl ?_
  refine wp_blk C 6 5 (pc' := 17) (ls' := [.val (.ref sa), .val (.ref vb), .val (.int p), .val (.int 0)]) (st' := [.int (p <<< (0 &&& 31)), .ref vb, .int 0, .ref b]) rfl ?_
  rw [shl0]
  refine wp_blk C 11 1 (pc' := 18) (ls' := [.val (.ref sa), .val (.ref vb), .val (.int p), .val (.int 0)]) (st' := [.ref sa, .int p, .ref vb, .int 0, .ref b]) rfl ?_
  refine wp_get C 12 21 0 1 rfl rfl (wd hw 28 rfl) Via.refl rfl rfl rfl ?_
  refine wp_len C (z := n) 13 22 1 rfl rfl rfl (by rw [List.length_map]; exact len32 hn) ?_
  refine wp_copy C (ns := 0) (nd := cs.length) (n := ds.length) (vd' := (sbv (cs ++ ds)).map bt) (L' := [(sa, w, .inl kS, [.int 0, .ref b]), (b, u, .inr .byte, ds.map bt), (vb, true, .inr .byte, (sbv (cs ++ ds)).map bt)]) (W := 0) 14 25 1 2 rfl rfl (wd hw 103 rfl) (wd hw 106 rfl) (wd hw 104 rfl) (wd hw 105 rfl) rfl rfl rfl rfl hp hn (by rw [List.length_map]; omega) (by rw [List.length_map, sbv_len (by omega)]; exact h16) (sbv_put h16) rfl (by decide) rfl (by decide +kernel) rfl ?_
  refine wp_blk C 15 1 (pc' := 43) (ls' := [.val (.ref sa), .val (.ref vb), .val (.int p), .val (.int 0)]) (st' := []) rfl ?_
  exact wp_ret0 C 16 rfl (by decide) (by decide) (⟨rfl, rfl⟩)
theorem pn18 : plainFor (⟨"java/lang/AbstractStringBuilder", "putStringAt", "(ILjava/lang/String;)V"⟩ : MethodName) = true := by first | (refine plainFor_of_name ?_; simp [plainName, overriddenIn]; done) | (refine plainFor_of_name ?_; decide +kernel) | decide +kernel
theorem pd10 : parseMethodDescriptor "(Ljava/lang/String;)V" = some ⟨[(.object "java/lang/String")], none⟩ := by decide +kernel
theorem pd11 : parseMethodDescriptor "([BIB)V" = some ⟨[(.array .byte), .int, .byte], none⟩ := by decide +kernel
def B_rm_psa : Prog := [(0, .aload_n 0, 1), (1, .aload_n 2, 1), (2, .invokevirtual 397, 3), (5, .aload_n 2, 1), (6, .aload_n 0, 1), (7, .getfield 15, 3), (10, .iload_n 1, 1), (11, .aload_n 0, 1), (12, .getfield 22, 3), (15, .invokevirtual 399, 3), (18, .return_, 1)]
theorem B_rm_psa_ok : okB jdk_68_method_73_code B_rm_psa = true := by decide +kernel
set_option maxRecDepth 65536 in
set_option maxHeartbeats 40000000 in
theorem rm_psa (l : Launch) (Z : State) (a0 : Array Value) (hw : ∀ d ∈ tables_1, d.before a0 Z = true) (ba vb sa b : Addr) (w u : Bool) (cs ds : List Int32) (cn p n : Int32) (cz : Int32) (S1 : Sta Z Z.heap "java/lang/String" "COMPACT_STRINGS" "Z" (.int cz)) (hcz : cz ≠ 0) (hp : p.toInt = cs.length) (hn : n.toInt = ds.length) (h16 : cs.length + ds.length ≤ 16) : Ct l Z EL1 nw1 (⟨"java/lang/AbstractStringBuilder", "putStringAt", "(ILjava/lang/String;)V"⟩ : MethodName) jdk_68_method_73_code 3 none [] ({ frames := 2, cells := 0, slots := 0, locals := 33 } : Room) [.ref ba, .int p, .ref sa] [(ba, true, .inl kSB, [.ref vb, .int 0, .int cn]), (vb, true, .inr .byte, (sbv cs).map bt), (sa, w, .inl kS, [.int 0, .ref b]), (b, u, .inr .byte, ds.map bt)] (fun v L => v = none ∧ L = [(ba, true, .inl kSB, [.ref vb, .int 0, .int cn]), (vb, true, .inr .byte, (sbv (cs ++ ds)).map bt), (sa, w, .inl kS, [.int 0, .ref b]), (b, u, .inr .byte, ds.map bt)]) := by
  refine ct_of pn18 (B := B_rm_psa) (ls := [.val (.ref ba), .val (.int p), .val (.ref sa)]) B_rm_psa_ok (ew1 hw) (fun m => by first | (simp [entryFrame, mkF, argsToLocals, Value.category]; done) | rfl) (fun K C => ?_)
  refine wp_blk C 0 2 (pc' := 2) (ls' := [.val (.ref ba), .val (.int p), .val (.ref sa)]) (st' := [.ref sa, .ref ba]) rfl ?_
  refine wp_front C 2 (L' := [(sa, w, .inl kS, [.int 0, .ref b]), (ba, true, .inl kSB, [.ref vb, .int 0, .int cn]), (vb, true, .inr .byte, (sbv cs).map bt), (b, u, .inr .byte, ds.map bt)]) rfl ?_
  refine wp_front C 1 (L' := [(ba, true, .inl kSB, [.ref vb, .int 0, .int cn]), (sa, w, .inl kS, [.int 0, .ref b]), (vb, true, .inr .byte, (sbv cs).map bt), (b, u, .inr .byte, ds.map bt)]) rfl ?_
  refine wp_private C (al := [.ref sa]) (rest := []) (L1 := [(vb, true, .inr .byte, (sbv cs).map bt), (b, u, .inr .byte, ds.map bt)]) (W := 0) (cells' := 0) (slots' := 0) 2 5 0 (rm_inf l Z a0 hw ba vb sa b w cn cz S1 hcz) rfl rfl rfl (wd hw 92 rfl) (wd hw 93 rfl) (selects_own (by decide) (wd hw 95 rfl) (wd hw 94 rfl) (wd hw 93 rfl)) (wd hw 94 rfl) (wd hw 96 rfl) (wd hw 49 rfl) (by decide) pd10 rfl rfl rfl rfl (by decide) (by decide) rfl rfl rfl (by decide) (by decide) (fun v L' hQ => ?_)
  obtain ⟨rfl, rfl⟩ := hQ
  show Wp K 0 0 [(ba, true, .inl kSB, [.ref vb, .int 0, .int cn]), (sa, w, .inl kS, [.int 0, .ref b]), (vb, true, .inr .byte, (sbv cs).map bt), (b, u, .inr .byte, ds.map bt)] 5 [.val (.ref ba), .val (.int p), .val (.ref sa)] []
  refine wp_blk C 3 2 (pc' := 7) (ls' := [.val (.ref ba), .val (.int p), .val (.ref sa)]) (st' := [.ref ba, .ref sa]) rfl ?_
  refine wp_get C 5 10 0 0 rfl rfl (wd hw 53 rfl) Via.refl rfl rfl rfl ?_
  refine wp_blk C 6 2 (pc' := 12) (ls' := [.val (.ref ba), .val (.int p), .val (.ref sa)]) (st' := [.ref ba, .int p, .ref vb, .ref sa]) rfl ?_
  refine wp_get C 8 15 0 1 rfl rfl (wd hw 55 rfl) Via.refl rfl rfl rfl ?_
  refine wp_front C 2 (L' := [(vb, true, .inr .byte, (sbv cs).map bt), (ba, true, .inl kSB, [.ref vb, .int 0, .int cn]), (sa, w, .inl kS, [.int 0, .ref b]), (b, u, .inr .byte, ds.map bt)]) rfl ?_
  refine wp_front C 3 (L' := [(b, u, .inr .byte, ds.map bt), (vb, true, .inr .byte, (sbv cs).map bt), (ba, true, .inl kSB, [.ref vb, .int 0, .int cn]), (sa, w, .inl kS, [.int 0, .ref b])]) rfl ?_
  refine wp_front C 3 (L' := [(sa, w, .inl kS, [.int 0, .ref b]), (b, u, .inr .byte, ds.map bt), (vb, true, .inr .byte, (sbv cs).map bt), (ba, true, .inl kSB, [.ref vb, .int 0, .int cn])]) rfl ?_
  refine wp_virtual C (al := [.ref vb, .int p, .int 0]) (rest := []) (L1 := [(ba, true, .inl kSB, [.ref vb, .int 0, .int cn])]) (W := 0) (cells' := 0) (slots' := 0) 9 18 0 (rm_gby l Z a0 hw sa b vb w u cs ds p n cz S1 hcz hp hn h16) rfl rfl rfl (wd hw 98 rfl) (wd hw 99 rfl) (nf_self (wd hw 101 rfl)) (wd hw 101 rfl) (wd hw 100 rfl) (wd hw 102 rfl) (wd hw 2 rfl) (by decide) pd11 rfl rfl rfl rfl (by decide) (by decide) rfl rfl rfl (by decide) (by decide) (fun v L' hQ => ?_)
  obtain ⟨rfl, rfl⟩ := hQ
  show Wp K 0 0 [(sa, w, .inl kS, [.int 0, .ref b]), (b, u, .inr .byte, ds.map bt), (vb, true, .inr .byte, (sbv (cs ++ ds)).map bt), (ba, true, .inl kSB, [.ref vb, .int 0, .int cn])] 18 [.val (.ref ba), .val (.int p), .val (.ref sa)] []
  refine wp_front C 1 (L' := [(b, u, .inr .byte, ds.map bt), (sa, w, .inl kS, [.int 0, .ref b]), (vb, true, .inr .byte, (sbv (cs ++ ds)).map bt), (ba, true, .inl kSB, [.ref vb, .int 0, .int cn])]) rfl ?_
  refine wp_front C 1 (L' := [(sa, w, .inl kS, [.int 0, .ref b]), (b, u, .inr .byte, ds.map bt), (vb, true, .inr .byte, (sbv (cs ++ ds)).map bt), (ba, true, .inl kSB, [.ref vb, .int 0, .int cn])]) rfl ?_
  refine wp_front C 2 (L' := [(vb, true, .inr .byte, (sbv (cs ++ ds)).map bt), (sa, w, .inl kS, [.int 0, .ref b]), (b, u, .inr .byte, ds.map bt), (ba, true, .inl kSB, [.ref vb, .int 0, .int cn])]) rfl ?_
  refine wp_front C 3 (L' := [(ba, true, .inl kSB, [.ref vb, .int 0, .int cn]), (vb, true, .inr .byte, (sbv (cs ++ ds)).map bt), (sa, w, .inl kS, [.int 0, .ref b]), (b, u, .inr .byte, ds.map bt)]) rfl ?_
  exact wp_ret0 C 10 rfl (by decide) (by decide) (⟨rfl, rfl⟩)
theorem pn19 : plainFor (⟨"java/lang/AbstractStringBuilder", "append", "(Ljava/lang/String;)Ljava/lang/AbstractStringBuilder;"⟩ : MethodName) = true := by first | (refine plainFor_of_name ?_; simp [plainName, overriddenIn]; done) | (refine plainFor_of_name ?_; decide +kernel) | decide +kernel
theorem pd12 : parseMethodDescriptor "()I" = some ⟨[], (some .int)⟩ := by decide +kernel
theorem pd13 : parseMethodDescriptor "(ILjava/lang/String;)V" = some ⟨[.int, (.object "java/lang/String")], none⟩ := by decide +kernel
theorem fd2 : parseFieldDescriptor "I" = some .int := by decide +kernel
def B_rm_aap : Prog := [(0, .aload_n 1, 1), (1, .ifnonnull 8, 3), (9, .aload_n 1, 1), (10, .invokevirtual 32, 3), (13, .istore_n 2, 1), (14, .aload_n 0, 1), (15, .aload_n 0, 1), (16, .getfield 79, 3), (19, .iload_n 2, 1), (20, .iadd, 1), (21, .invokevirtual 100, 3), (24, .aload_n 0, 1), (25, .aload_n 0, 1), (26, .getfield 79, 3), (29, .aload_n 1, 1), (30, .invokevirtual 208, 3), (33, .aload_n 0, 1), (34, .dup, 1), (35, .getfield 79, 3), (38, .iload_n 2, 1), (39, .iadd, 1), (40, .putfield 79, 3), (43, .aload_n 0, 1), (44, .areturn, 1)]
theorem B_rm_aap_ok : okB jdk_68_method_22_code B_rm_aap = true := by decide +kernel
set_option maxRecDepth 65536 in
set_option maxHeartbeats 40000000 in
theorem rm_aap (l : Launch) (Z : State) (a0 : Array Value) (hw : ∀ d ∈ tables_1, d.before a0 Z = true) (ba vb sa b : Addr) (w u : Bool) (cs ds : List Int32) (cn : Int32) (cz : Int32) (S1 : Sta Z Z.heap "java/lang/String" "COMPACT_STRINGS" "Z" (.int cz)) (hcz : cz ≠ 0) (hc : cn.toInt = cs.length) (h16 : cs.length + ds.length ≤ 16) : Ct l Z EL1 nw1 (⟨"java/lang/AbstractStringBuilder", "append", "(Ljava/lang/String;)Ljava/lang/AbstractStringBuilder;"⟩ : MethodName) jdk_68_method_22_code 3 (some (.object "java/lang/AbstractStringBuilder")) [] ({ frames := 3, cells := 0, slots := 0, locals := 47 } : Room) [.ref ba, .ref sa] [(ba, true, .inl kSB, [.ref vb, .int 0, .int cn]), (vb, true, .inr .byte, (sbv cs).map bt), (sa, w, .inl kS, [.int 0, .ref b]), (b, u, .inr .byte, ds.map bt)] (fun v L => ∃ cm : Int32, cm.toInt = (cs ++ ds).length ∧ v = some (.ref ba) ∧ L = [(ba, true, .inl kSB, [.ref vb, .int 0, .int cm]), (vb, true, .inr .byte, (sbv (cs ++ ds)).map bt), (sa, w, .inl kS, [.int 0, .ref b]), (b, u, .inr .byte, ds.map bt)]) := by
  refine ct_of pn19 (B := B_rm_aap) (ls := [.val (.ref ba), .val (.ref sa), .unset]) B_rm_aap_ok (ew1 hw) (fun m => by first | (simp [entryFrame, mkF, argsToLocals, Value.category]; done) | rfl) (fun K C => ?_)
  obtain ⟨n, hnn⟩ : ∃ n : Int32, ds.length.toInt32 = n := ⟨_, rfl⟩
  have hn : n.toInt = ds.length := by rw [← hnn]; exact len_toInt (by omega)
  refine wp_blk C 0 1 (pc' := 1) (ls' := [.val (.ref ba), .val (.ref sa), .unset]) (st' := [.ref sa]) rfl ?_
  refine wp_nonnullY C 1 9 rfl rfl (by decide) ?_
  refine wp_blk C 2 1 (pc' := 10) (ls' := [.val (.ref ba), .val (.ref sa), .unset]) (st' := [.ref sa]) rfl ?_
  refine wp_front C 3 (L' := [(b, u, .inr .byte, ds.map bt), (ba, true, .inl kSB, [.ref vb, .int 0, .int cn]), (vb, true, .inr .byte, (sbv cs).map bt), (sa, w, .inl kS, [.int 0, .ref b])]) rfl ?_
  refine wp_front C 3 (L' := [(sa, w, .inl kS, [.int 0, .ref b]), (b, u, .inr .byte, ds.map bt), (ba, true, .inl kSB, [.ref vb, .int 0, .int cn]), (vb, true, .inr .byte, (sbv cs).map bt)]) rfl ?_
  refine wp_virtual C (al := []) (rest := []) (L1 := [(ba, true, .inl kSB, [.ref vb, .int 0, .int cn]), (vb, true, .inr .byte, (sbv cs).map bt)]) (W := 0) (cells' := 0) (slots' := 0) 3 13 0 (rm_len l Z a0 hw sa b w u ds n cz S1 hcz hn) rfl rfl rfl (wd hw 70 rfl) (wd hw 71 rfl) (nf_self (wd hw 73 rfl)) (wd hw 73 rfl) (wd hw 72 rfl) (wd hw 74 rfl) (wd hw 2 rfl) (by decide) pd12 rfl rfl rfl rfl (by decide) (by decide) rfl rfl rfl (by decide) (by decide) (fun v L' hQ => ?_)
  obtain ⟨rfl, rfl⟩ := hQ
  show Wp K 0 0 [(sa, w, .inl kS, [.int 0, .ref b]), (b, u, .inr .byte, ds.map bt), (ba, true, .inl kSB, [.ref vb, .int 0, .int cn]), (vb, true, .inr .byte, (sbv cs).map bt)] 13 [.val (.ref ba), .val (.ref sa), .unset] [.int n]
  refine wp_blk C 4 3 (pc' := 16) (ls' := [.val (.ref ba), .val (.ref sa), .val (.int n)]) (st' := [.ref ba, .ref ba]) rfl ?_
  refine wp_get C 7 19 2 2 rfl rfl (wd hw 80 rfl) Via.refl rfl rfl rfl ?_
  refine wp_blk C 8 2 (pc' := 21) (ls' := [.val (.ref ba), .val (.ref sa), .val (.int n)]) (st' := [.int (cn + n), .ref ba]) rfl ?_
  obtain ⟨t, ht⟩ : ∃ nn0 : Int32, nn0 = cn + n := ⟨_, rfl⟩
  rw [← ht]
  have Ht : t.toInt = (cs.length + ds.length : Nat) := by rw [ht, addI hc hn]; omega
  refine wp_front C 3 (L' := [(vb, true, .inr .byte, (sbv cs).map bt), (sa, w, .inl kS, [.int 0, .ref b]), (b, u, .inr .byte, ds.map bt), (ba, true, .inl kSB, [.ref vb, .int 0, .int cn])]) rfl ?_
  refine wp_front C 3 (L' := [(ba, true, .inl kSB, [.ref vb, .int 0, .int cn]), (vb, true, .inr .byte, (sbv cs).map bt), (sa, w, .inl kS, [.int 0, .ref b]), (b, u, .inr .byte, ds.map bt)]) rfl ?_
  refine wp_private C (al := [.int t]) (rest := []) (L1 := [(sa, w, .inl kS, [.int 0, .ref b]), (b, u, .inr .byte, ds.map bt)]) (W := 0) (cells' := 0) (slots' := 0) 10 24 0 (rm_ens l Z a0 hw ba vb cs cn t (cs.length + ds.length) (by omega) Ht h16) rfl rfl rfl (wd hw 82 rfl) (wd hw 83 rfl) (selects_own (by decide) (wd hw 85 rfl) (wd hw 84 rfl) (wd hw 83 rfl)) (wd hw 84 rfl) (wd hw 86 rfl) (wd hw 49 rfl) (by decide) pd9 rfl rfl rfl rfl (by decide) (by decide) rfl rfl rfl (by decide) (by decide) (fun v L' hQ => ?_)
  obtain ⟨rfl, rfl⟩ := hQ
  show Wp K 0 0 [(ba, true, .inl kSB, [.ref vb, .int 0, .int cn]), (vb, true, .inr .byte, (sbv cs).map bt), (sa, w, .inl kS, [.int 0, .ref b]), (b, u, .inr .byte, ds.map bt)] 24 [.val (.ref ba), .val (.ref sa), .val (.int n)] []
  refine wp_blk C 11 2 (pc' := 26) (ls' := [.val (.ref ba), .val (.ref sa), .val (.int n)]) (st' := [.ref ba, .ref ba]) rfl ?_
  refine wp_get C 13 29 0 2 rfl rfl (wd hw 80 rfl) Via.refl rfl rfl rfl ?_
  refine wp_blk C 14 1 (pc' := 30) (ls' := [.val (.ref ba), .val (.ref sa), .val (.int n)]) (st' := [.ref sa, .int cn, .ref ba]) rfl ?_
  refine wp_private C (al := [.int cn, .ref sa]) (rest := []) (L1 := []) (W := 0) (cells' := 0) (slots' := 0) 15 33 0 (rm_psa l Z a0 hw ba vb sa b w u cs ds cn cn n cz S1 hcz hc hn h16) rfl rfl rfl (wd hw 87 rfl) (wd hw 88 rfl) (selects_own (by decide) (wd hw 90 rfl) (wd hw 89 rfl) (wd hw 88 rfl)) (wd hw 89 rfl) (wd hw 91 rfl) (wd hw 49 rfl) (by decide) pd13 rfl rfl rfl rfl (by decide) (by decide) rfl rfl rfl (by decide) (by decide) (fun v L' hQ => ?_)
  obtain ⟨rfl, rfl⟩ := hQ
  show Wp K 0 0 [(ba, true, .inl kSB, [.ref vb, .int 0, .int cn]), (vb, true, .inr .byte, (sbv (cs ++ ds)).map bt), (sa, w, .inl kS, [.int 0, .ref b]), (b, u, .inr .byte, ds.map bt)] 33 [.val (.ref ba), .val (.ref sa), .val (.int n)] []
  refine wp_blk C 16 2 (pc' := 35) (ls' := [.val (.ref ba), .val (.ref sa), .val (.int n)]) (st' := [.ref ba, .ref ba]) rfl ?_
  refine wp_get C 18 38 0 2 rfl rfl (wd hw 80 rfl) Via.refl rfl rfl rfl ?_
  refine wp_blk C 19 2 (pc' := 40) (ls' := [.val (.ref ba), .val (.ref sa), .val (.int n)]) (st' := [.int (cn + n), .ref ba]) rfl ?_
  obtain ⟨cm, hcm⟩ : ∃ nn0 : Int32, nn0 = cn + n := ⟨_, rfl⟩
  rw [← hcm]
  have Hcm : cm.toInt = (cs ++ ds).length := by rw [hcm, addI hc hn, List.length_append]; omega
  refine wp_put C (ty := .int) (v := .int cm) (vs' := [.ref vb, .int 0, .int cm]) (L' := [(ba, true, .inl kSB, [.ref vb, .int 0, .int cm]), (vb, true, .inr .byte, (sbv (cs ++ ds)).map bt), (sa, w, .inl kS, [.int 0, .ref b]), (b, u, .inr .byte, ds.map bt)]) 21 43 0 2 rfl rfl (wd hw 80 rfl) Via.refl (Or.inl (wd hw 81 rfl)) (wd hw 40 rfl) (kSB_ok hw) fd2 rfl rfl rfl rfl rfl rfl rfl ?_
  refine wp_blk C 22 1 (pc' := 44) (ls' := [.val (.ref ba), .val (.ref sa), .val (.int n)]) (st' := [.ref ba]) rfl ?_
  exact wp_retA C 23 rfl rfl rfl (by decide) (by decide) (⟨cm, Hcm, rfl, rfl⟩)
theorem pn20 : plainFor (⟨"java/lang/StringBuilder", "append", "(Ljava/lang/String;)Ljava/lang/StringBuilder;"⟩ : MethodName) = true := by first | (refine plainFor_of_name ?_; simp [plainName, overriddenIn]; done) | (refine plainFor_of_name ?_; decide +kernel) | decide +kernel
theorem pd14 : parseMethodDescriptor "(Ljava/lang/String;)Ljava/lang/AbstractStringBuilder;" = some ⟨[(.object "java/lang/String")], (some (.object "java/lang/AbstractStringBuilder"))⟩ := by decide +kernel
def B_rm_sap : Prog := [(0, .aload_n 0, 1), (1, .aload_n 1, 1), (2, .invokespecial 29, 3), (5, .pop, 1), (6, .aload_n 0, 1), (7, .areturn, 1)]
theorem B_rm_sap_ok : okB jdk_67_method_7_code B_rm_sap = true := by decide +kernel
set_option maxRecDepth 65536 in
set_option maxHeartbeats 40000000 in
theorem rm_sap (l : Launch) (Z : State) (a0 : Array Value) (hw : ∀ d ∈ tables_1, d.before a0 Z = true) (ba vb sa b : Addr) (w u : Bool) (cs ds : List Int32) (cn : Int32) (cz : Int32) (S1 : Sta Z Z.heap "java/lang/String" "COMPACT_STRINGS" "Z" (.int cz)) (hcz : cz ≠ 0) (hc : cn.toInt = cs.length) (h16 : cs.length + ds.length ≤ 16) : Ct l Z EL1 nw1 (⟨"java/lang/StringBuilder", "append", "(Ljava/lang/String;)Ljava/lang/StringBuilder;"⟩ : MethodName) jdk_67_method_7_code 2 (some (.object "java/lang/StringBuilder")) [] ({ frames := 4, cells := 0, slots := 0, locals := 61 } : Room) [.ref ba, .ref sa] [(ba, true, .inl kSB, [.ref vb, .int 0, .int cn]), (vb, true, .inr .byte, (sbv cs).map bt), (sa, w, .inl kS, [.int 0, .ref b]), (b, u, .inr .byte, ds.map bt)] (fun v L => ∃ cm : Int32, cm.toInt = (cs ++ ds).length ∧ v = some (.ref ba) ∧ L = [(ba, true, .inl kSB, [.ref vb, .int 0, .int cm]), (vb, true, .inr .byte, (sbv (cs ++ ds)).map bt), (sa, w, .inl kS, [.int 0, .ref b]), (b, u, .inr .byte, ds.map bt)]) := by
  refine ct_of pn20 (B := B_rm_sap) (ls := [.val (.ref ba), .val (.ref sa)]) B_rm_sap_ok (ew1 hw) (fun m => by first | (simp [entryFrame, mkF, argsToLocals, Value.category]; done) | rfl) (fun K C => ?_)
  refine wp_blk C 0 2 (pc' := 2) (ls' := [.val (.ref ba), .val (.ref sa)]) (st' := [.ref sa, .ref ba]) rfl ?_
  refine wp_super C (al := [.ref sa]) (rest := []) (L1 := []) (W := 0) (cells' := 0) (slots' := 0) 2 5 0 (rm_aap l Z a0 hw ba vb sa b w u cs ds cn cz S1 hcz hc h16) rfl rfl rfl (wd hw 65 rfl) (same_sib (by decide) (wd hw 85 rfl) rfl (wd hw 66 rfl)) (wd hw 66 rfl) (wd hw 67 rfl) (by decide) (wd hw 69 rfl) (wd hw 49 rfl) pd14 rfl rfl rfl rfl (by decide) (by decide) rfl rfl rfl (by decide) (by decide) (fun v L' hQ => ?_)
  obtain ⟨cm, Hcm, rfl, rfl⟩ := hQ
  show Wp K 0 0 [(ba, true, .inl kSB, [.ref vb, .int 0, .int cm]), (vb, true, .inr .byte, (sbv (cs ++ ds)).map bt), (sa, w, .inl kS, [.int 0, .ref b]), (b, u, .inr .byte, ds.map bt)] 5 [.val (.ref ba), .val (.ref sa)] [.ref ba]
  refine wp_blk C 3 2 (pc' := 7) (ls' := [.val (.ref ba), .val (.ref sa)]) (st' := [.ref ba]) rfl ?_
  exact wp_retA C 5 rfl rfl rfl (by decide) (by decide) (⟨cm, Hcm, rfl, rfl⟩)
theorem pn21 : plainFor (⟨"java/lang/AbstractStringBuilder", "getValue", "()[B"⟩ : MethodName) = true := by first | (refine plainFor_of_name ?_; simp [plainName, overriddenIn]; done) | (refine plainFor_of_name ?_; decide +kernel) | decide +kernel
def B_rm_gv : Prog := [(0, .aload_n 0, 1), (1, .getfield 15, 3), (4, .areturn, 1)]
theorem B_rm_gv_ok : okB jdk_68_method_64_code B_rm_gv = true := by decide +kernel
set_option maxRecDepth 65536 in
set_option maxHeartbeats 40000000 in
theorem rm_gv (l : Launch) (Z : State) (a0 : Array Value) (hw : ∀ d ∈ tables_1, d.before a0 Z = true) (ba vb : Addr) (cn : Int32) : Ct l Z EL1 nw1 (⟨"java/lang/AbstractStringBuilder", "getValue", "()[B"⟩ : MethodName) jdk_68_method_64_code 1 (some (.array .byte)) [] ({ frames := 0, cells := 0, slots := 0, locals := 0 } : Room) [.ref ba] [(ba, true, .inl kSB, [.ref vb, .int 0, .int cn])] (fun v L => v = some (.ref vb) ∧ L = [(ba, true, .inl kSB, [.ref vb, .int 0, .int cn])]) := by
  refine ct_of pn21 (B := B_rm_gv) (ls := [.val (.ref ba)]) B_rm_gv_ok (ew1 hw) (fun m => by first | (simp [entryFrame, mkF, argsToLocals, Value.category]; done) | rfl) (fun K C => ?_)
  refine wp_blk C 0 1 (pc' := 1) (ls' := [.val (.ref ba)]) (st' := [.ref ba]) rfl ?_
  refine wp_get C 1 4 0 0 rfl rfl (wd hw 53 rfl) Via.refl rfl rfl rfl ?_
  exact wp_retA C 2 rfl rfl rfl (by decide) (by decide) (⟨rfl, rfl⟩)
theorem pn22 : plainFor (⟨"java/lang/AbstractStringBuilder", "length", "()I"⟩ : MethodName) = true := by first | (refine plainFor_of_name ?_; simp [plainName, overriddenIn]; done) | (refine plainFor_of_name ?_; decide +kernel) | decide +kernel
def B_rm_aln : Prog := [(0, .aload_n 0, 1), (1, .getfield 79, 3), (4, .ireturn, 1)]
theorem B_rm_aln_ok : okB jdk_68_method_6_code B_rm_aln = true := by decide +kernel
set_option maxRecDepth 65536 in
set_option maxHeartbeats 40000000 in
theorem rm_aln (l : Launch) (Z : State) (a0 : Array Value) (hw : ∀ d ∈ tables_1, d.before a0 Z = true) (ba vb : Addr) (cn : Int32) : Ct l Z EL1 nw1 (⟨"java/lang/AbstractStringBuilder", "length", "()I"⟩ : MethodName) jdk_68_method_6_code 1 (some .int) [] ({ frames := 0, cells := 0, slots := 0, locals := 0 } : Room) [.ref ba] [(ba, true, .inl kSB, [.ref vb, .int 0, .int cn])] (fun v L => v = some (.int cn) ∧ L = [(ba, true, .inl kSB, [.ref vb, .int 0, .int cn])]) := by
  refine ct_of pn22 (B := B_rm_aln) (ls := [.val (.ref ba)]) B_rm_aln_ok (ew1 hw) (fun m => by first | (simp [entryFrame, mkF, argsToLocals, Value.category]; done) | rfl) (fun K C => ?_)
  refine wp_blk C 0 1 (pc' := 1) (ls' := [.val (.ref ba)]) (st' := [.ref ba]) rfl ?_
  refine wp_get C 1 4 0 2 rfl rfl (wd hw 80 rfl) Via.refl rfl rfl rfl ?_
  exact wp_retI C 2 rfl (by decide) (by decide) (⟨rfl, rfl⟩)
theorem pn23 : plainFor (⟨"java/lang/StringBuilder", "length", "()I"⟩ : MethodName) = true := by first | (refine plainFor_of_name ?_; simp [plainName, overriddenIn]; done) | (refine plainFor_of_name ?_; decide +kernel) | decide +kernel
def B_rm_sln : Prog := [(0, .aload_n 0, 1), (1, .invokespecial 343, 3), (4, .ireturn, 1)]
theorem B_rm_sln_ok : okB jdk_67_method_93_code B_rm_sln = true := by decide +kernel
set_option maxRecDepth 65536 in
set_option maxHeartbeats 40000000 in
theorem rm_sln (l : Launch) (Z : State) (a0 : Array Value) (hw : ∀ d ∈ tables_1, d.before a0 Z = true) (ba vb : Addr) (cn : Int32) : Ct l Z EL1 nw1 (⟨"java/lang/StringBuilder", "length", "()I"⟩ : MethodName) jdk_67_method_93_code 1 (some .int) [] ({ frames := 1, cells := 0, slots := 0, locals := 12 } : Room) [.ref ba] [(ba, true, .inl kSB, [.ref vb, .int 0, .int cn])] (fun v L => v = some (.int cn) ∧ L = [(ba, true, .inl kSB, [.ref vb, .int 0, .int cn])]) := by
  refine ct_of pn23 (B := B_rm_sln) (ls := [.val (.ref ba)]) B_rm_sln_ok (ew1 hw) (fun m => by first | (simp [entryFrame, mkF, argsToLocals, Value.category]; done) | rfl) (fun K C => ?_)
  refine wp_blk C 0 1 (pc' := 1) (ls' := [.val (.ref ba)]) (st' := [.ref ba]) rfl ?_
  refine wp_super C (al := []) (rest := []) (L1 := []) (W := 0) (cells' := 0) (slots' := 0) 1 4 0 (rm_aln l Z a0 hw ba vb cn) rfl rfl rfl (wd hw 131 rfl) (same_sib (by decide) (wd hw 85 rfl) rfl (wd hw 127 rfl)) (wd hw 127 rfl) (wd hw 67 rfl) (by decide) (wd hw 132 rfl) (wd hw 49 rfl) pd12 rfl rfl rfl rfl (by decide) (by decide) rfl rfl rfl (by decide) (by decide) (fun v L' hQ => ?_)
  obtain ⟨rfl, rfl⟩ := hQ
  show Wp K 0 0 [(ba, true, .inl kSB, [.ref vb, .int 0, .int cn])] 4 [.val (.ref ba)] [.int cn]
  exact wp_retI C 2 rfl (by decide) (by decide) (⟨rfl, rfl⟩)
theorem pn24 : plainFor (⟨"java/lang/AbstractStringBuilder", "isLatin1", "()Z"⟩ : MethodName) = true := by first | (refine plainFor_of_name ?_; simp [plainName, overriddenIn]; done) | (refine plainFor_of_name ?_; decide +kernel) | decide +kernel
def B_rm_ail : Prog := [(0, .getstatic 18, 3), (3, .ifCond .eq 14, 3), (6, .aload_n 0, 1), (7, .getfield 22, 3), (10, .ifCond .ne 7, 3), (13, .iconst 1, 1), (14, .goto 4, 3), (18, .ireturn, 1)]
theorem B_rm_ail_ok : okB jdk_68_method_68_code B_rm_ail = true := by decide +kernel
set_option maxRecDepth 65536 in
set_option maxHeartbeats 40000000 in
theorem rm_ail (l : Launch) (Z : State) (a0 : Array Value) (hw : ∀ d ∈ tables_1, d.before a0 Z = true) (ba vb : Addr) (cn : Int32) (cz : Int32) (S1 : Sta Z Z.heap "java/lang/String" "COMPACT_STRINGS" "Z" (.int cz)) (hcz : cz ≠ 0) : Ct l Z EL1 nw1 (⟨"java/lang/AbstractStringBuilder", "isLatin1", "()Z"⟩ : MethodName) jdk_68_method_68_code 1 (some .boolean) [] ({ frames := 0, cells := 0, slots := 0, locals := 0 } : Room) [.ref ba] [(ba, true, .inl kSB, [.ref vb, .int 0, .int cn])] (fun v L => v = some (.int 1) ∧ L = [(ba, true, .inl kSB, [.ref vb, .int 0, .int cn])]) := by
  refine ct_of pn24 (B := B_rm_ail) (ls := [.val (.ref ba)]) B_rm_ail_ok (ew1 hw) (fun m => by first | (simp [entryFrame, mkF, argsToLocals, Value.category]; done) | rfl) (fun K C => ?_)
  refine wp_getS C 0 3 rfl rfl (wd hw 52 rfl) Via.refl S1 ?_
  refine wp_ifz C 1 17 6 rfl rfl rfl (by decide) (fun h => absurd h (hcz)) (fun _ => ?_)
  refine wp_blk C 2 1 (pc' := 7) (ls' := [.val (.ref ba)]) (st' := [.ref ba]) rfl ?_
  refine wp_get C 3 10 0 1 rfl rfl (wd hw 55 rfl) Via.refl rfl rfl rfl ?_
  refine wp_ifz C 4 17 13 rfl rfl rfl (by decide) (fun h => absurd h (fun q : (0 : Int32) ≠ 0 => absurd q (by decide))) (fun _ => ?_)
  refine wp_blk C 5 2 (pc' := 18) (ls' := [.val (.ref ba)]) (st' := [.int 1]) rfl ?_
  exact wp_retN C (z' := 1) 7 rfl (Or.inl rfl) rfl (by decide) (by decide) (⟨rfl, rfl⟩)
theorem pn25 : plainFor (⟨"java/lang/String", "<init>", "(Ljava/lang/AbstractStringBuilder;Ljava/lang/Void;)V"⟩ : MethodName) = true := by first | (refine plainFor_of_name ?_; simp [plainName, overriddenIn]; done) | (refine plainFor_of_name ?_; decide +kernel) | decide +kernel
theorem pd15 : parseMethodDescriptor "()[B" = some ⟨[], (some (.array .byte))⟩ := by decide +kernel
theorem pd16 : parseMethodDescriptor "()Z" = some ⟨[], (some .boolean)⟩ := by decide +kernel
def B_rm_sab : Prog := [(0, .aload_n 0, 1), (1, .invokespecial 1, 3), (4, .aload_n 1, 1), (5, .invokevirtual 552, 3), (8, .astore_n 3, 1), (9, .aload_n 1, 1), (10, .invokevirtual 549, 3), (13, .istore 4, 2), (15, .aload_n 1, 1), (16, .invokevirtual 1047, 3), (19, .ifCond .eq 22, 3), (22, .aload_n 0, 1), (23, .iconst 0, 1), (24, .putfield 15, 3), (27, .aload_n 0, 1), (28, .aload_n 3, 1), (29, .iconst 0, 1), (30, .iload 4, 2), (32, .invokestatic 54, 3), (35, .putfield 9, 3), (38, .goto 59, 3), (97, .return_, 1)]
theorem B_rm_sab_ok : okB jdk_42_method_150_code B_rm_sab = true := by decide +kernel
set_option maxRecDepth 65536 in
set_option maxHeartbeats 40000000 in
theorem rm_sab (l : Launch) (Z : State) (a0 : Array Value) (hw : ∀ d ∈ tables_1, d.before a0 Z = true) (ra ba vb : Addr) (cs : List Int32) (cn : Int32) (cz : Int32) (S1 : Sta Z Z.heap "java/lang/String" "COMPACT_STRINGS" "Z" (.int cz)) (hcz : cz ≠ 0) (hc : cn.toInt = cs.length) (hlt : cs.length < 16) : Ct l Z EL1 nw1 (⟨"java/lang/String", "<init>", "(Ljava/lang/AbstractStringBuilder;Ljava/lang/Void;)V"⟩ : MethodName) jdk_42_method_150_code 5 none [] ({ frames := 3, cells := 1, slots := 16, locals := 49 } : Room) [.ref ra, .ref ba, .null] [(ra, true, .inl kS, [.int 0, .null]), (ba, true, .inl kSB, [.ref vb, .int 0, .int cn]), (vb, true, .inr .byte, (sbv cs).map bt)] (fun v L => v = none ∧ ∃ rb : Addr, L = [(ra, true, .inl kS, [.int 0, .ref rb]), (rb, true, .inr .byte, cs.map bt)]) := by
  refine ct_of pn25 (B := B_rm_sab) (ls := [.val (.ref ra), .val (.ref ba), .val (.null), .unset, .unset]) B_rm_sab_ok (ew1 hw) (fun m => by first | (simp [entryFrame, mkF, argsToLocals, Value.category]; done) | rfl) (fun K C => ?_)
  refine wp_blk C 0 1 (pc' := 1) (ls' := [.val (.ref ra), .val (.ref ba), .val (.null), .unset, .unset]) (st' := [.ref ra]) rfl ?_
  refine wp_initO C (W := 0) 1 4 rfl rfl (wd hw 11 rfl) (wd hw 12 rfl) (wd hw 13 rfl) (by decide) rfl (by decide) rfl ?_
  refine wp_blk C 2 1 (pc' := 5) (ls' := [.val (.ref ra), .val (.ref ba), .val (.null), .unset, .unset]) (st' := [.ref ba]) rfl ?_
  refine wp_front C 1 (L' := [(ba, true, .inl kSB, [.ref vb, .int 0, .int cn]), (ra, true, .inl kS, [.int 0, .null]), (vb, true, .inr .byte, (sbv cs).map bt)]) rfl ?_
  refine wp_virtual C (al := []) (rest := []) (L1 := [(ra, true, .inl kS, [.int 0, .null]), (vb, true, .inr .byte, (sbv cs).map bt)]) (W := 0) (cells' := 0) (slots' := 0) 3 8 0 (rm_gv l Z a0 hw ba vb cn) rfl rfl rfl (wd hw 120 rfl) (wd hw 121 rfl) (nf_self (wd hw 123 rfl)) (wd hw 123 rfl) (wd hw 122 rfl) (wd hw 124 rfl) (wd hw 49 rfl) (by decide) pd15 rfl rfl rfl rfl (by decide) (by decide) rfl rfl rfl (by decide) (by decide) (fun v L' hQ => ?_)
  obtain ⟨rfl, rfl⟩ := hQ
  show Wp K 0 0 [(ba, true, .inl kSB, [.ref vb, .int 0, .int cn]), (ra, true, .inl kS, [.int 0, .null]), (vb, true, .inr .byte, (sbv cs).map bt)] 8 [.val (.ref ra), .val (.ref ba), .val (.null), .unset, .unset] [.ref vb]
  refine wp_blk C 4 2 (pc' := 10) (ls' := [.val (.ref ra), .val (.ref ba), .val (.null), .val (.ref vb), .unset]) (st' := [.ref ba]) rfl ?_
  refine wp_virtual C (al := []) (rest := []) (L1 := [(ra, true, .inl kS, [.int 0, .null]), (vb, true, .inr .byte, (sbv cs).map bt)]) (W := 0) (cells' := 0) (slots' := 0) 6 13 0 (rm_sln l Z a0 hw ba vb cn) rfl rfl rfl (wd hw 125 rfl) (wd hw 126 rfl) (nf_sib (wd hw 85 rfl) rfl) (wd hw 128 rfl) (wd hw 129 rfl) (wd hw 130 rfl) (wd hw 41 rfl) (by decide) pd12 rfl rfl rfl rfl (by decide) (by decide) rfl rfl rfl (by decide) (by decide) (fun v L' hQ => ?_)
  obtain ⟨rfl, rfl⟩ := hQ
  show Wp K 0 0 [(ba, true, .inl kSB, [.ref vb, .int 0, .int cn]), (ra, true, .inl kS, [.int 0, .null]), (vb, true, .inr .byte, (sbv cs).map bt)] 13 [.val (.ref ra), .val (.ref ba), .val (.null), .val (.ref vb), .unset] [.int cn]
  refine wp_blk C 7 2 (pc' := 16) (ls' := [.val (.ref ra), .val (.ref ba), .val (.null), .val (.ref vb), .val (.int cn)]) (st' := [.ref ba]) rfl ?_
  refine wp_virtual C (al := []) (rest := []) (L1 := [(ra, true, .inl kS, [.int 0, .null]), (vb, true, .inr .byte, (sbv cs).map bt)]) (W := 0) (cells' := 0) (slots' := 0) 9 19 0 (rm_ail l Z a0 hw ba vb cn cz S1 hcz) rfl rfl rfl (wd hw 133 rfl) (wd hw 134 rfl) (nf_self (wd hw 136 rfl)) (wd hw 136 rfl) (wd hw 135 rfl) (wd hw 137 rfl) (wd hw 49 rfl) (by decide) pd16 rfl rfl rfl rfl (by decide) (by decide) rfl rfl rfl (by decide) (by decide) (fun v L' hQ => ?_)
  obtain ⟨rfl, rfl⟩ := hQ
  show Wp K 0 0 [(ba, true, .inl kSB, [.ref vb, .int 0, .int cn]), (ra, true, .inl kS, [.int 0, .null]), (vb, true, .inr .byte, (sbv cs).map bt)] 19 [.val (.ref ra), .val (.ref ba), .val (.null), .val (.ref vb), .val (.int cn)] [.int 1]
  refine wp_ifz C 10 41 22 rfl rfl rfl (by decide) (fun h => absurd h (fun q : (1 : Int32) = 0 => absurd q (by decide))) (fun _ => ?_)
  refine wp_blk C 11 2 (pc' := 24) (ls' := [.val (.ref ra), .val (.ref ba), .val (.null), .val (.ref vb), .val (.int cn)]) (st' := [.int 0, .ref ra]) rfl ?_
  refine wp_put C (ty := .byte) (v := .int 0) (vs' := [.int 0, .null]) (L' := [(ba, true, .inl kSB, [.ref vb, .int 0, .int cn]), (ra, true, .inl kS, [.int 0, .null]), (vb, true, .inr .byte, (sbv cs).map bt)]) 13 27 1 0 rfl rfl (wd hw 26 rfl) Via.refl (Or.inr ⟨wd hw 27 rfl, rfl, rfl⟩) (wd hw 1 rfl) (kS_ok hw) fd0 rfl rfl rfl rfl rfl rfl rfl ?_
  refine wp_blk C 14 4 (pc' := 32) (ls' := [.val (.ref ra), .val (.ref ba), .val (.null), .val (.ref vb), .val (.int cn)]) (st' := [.int cn, .int 0, .ref vb, .ref ra]) rfl ?_
  refine wp_front C 2 (L' := [(vb, true, .inr .byte, (sbv cs).map bt), (ba, true, .inl kSB, [.ref vb, .int 0, .int cn]), (ra, true, .inl kS, [.int 0, .null])]) rfl ?_
  refine wp_static C (al := [.ref vb, .int 0, .int cn]) (rest := [.ref ra]) (L1 := [(ba, true, .inl kSB, [.ref vb, .int 0, .int cn]), (ra, true, .inl kS, [.int 0, .null])]) (W := 1) (cells' := 1) (slots' := 16) 18 35 (rm_cor l Z a0 hw vb (sbv cs) 0 cn 0 cs.length rfl (by rw [hc]; omega) (by rw [sbv_len (by omega)]; omega) (by rw [sbv_len (by omega)]; decide) (Or.inr (by rw [sbv_len (by omega)]; omega))) rfl rfl (wd hw 138 rfl) (wd hw 139 rfl) (wd hw 141 rfl) (wd hw 140 rfl) (by decide) pd8 rfl rfl rfl rfl (by decide) (by decide) rfl rfl rfl (by decide) (by decide) (fun v L' hQ => ?_)
  obtain ⟨rb, rfl, rfl⟩ := hQ
  show Wp K 1 16 [(rb, true, .inr .byte, (((sbv cs).drop 0).take cs.length).map bt), (vb, true, .inr .byte, (sbv cs).map bt), (ba, true, .inl kSB, [.ref vb, .int 0, .int cn]), (ra, true, .inl kS, [.int 0, .null])] 35 [.val (.ref ra), .val (.ref ba), .val (.null), .val (.ref vb), .val (.int cn)] [.ref rb, .ref ra]
  rw [sbv_take]
  refine wp_put C (ty := (.array .byte)) (v := .ref rb) (vs' := [.int 0, .ref rb]) (L' := [(rb, true, .inr .byte, cs.map bt), (vb, true, .inr .byte, (sbv cs).map bt), (ba, true, .inl kSB, [.ref vb, .int 0, .int cn]), (ra, true, .inl kS, [.int 0, .ref rb])]) 19 38 3 1 rfl rfl (wd hw 28 rfl) Via.refl (Or.inr ⟨wd hw 29 rfl, rfl, rfl⟩) (wd hw 1 rfl) (kS_ok hw) fd1 rfl rfl rfl rfl rfl rfl rfl ?_
  refine wp_blk C 20 1 (pc' := 97) (ls' := [.val (.ref ra), .val (.ref ba), .val (.null), .val (.ref vb), .val (.int cn)]) (st' := []) rfl ?_
  refine wp_drop C 2 (L' := [(rb, true, .inr .byte, cs.map bt), (vb, true, .inr .byte, (sbv cs).map bt), (ra, true, .inl kS, [.int 0, .ref rb])]) rfl ?_
  refine wp_drop C 1 (L' := [(rb, true, .inr .byte, cs.map bt), (ra, true, .inl kS, [.int 0, .ref rb])]) rfl ?_
  refine wp_front C 1 (L' := [(ra, true, .inl kS, [.int 0, .ref rb]), (rb, true, .inr .byte, cs.map bt)]) rfl ?_
  exact wp_ret0 C 21 rfl (by decide) (by decide) (⟨rfl, rb, rfl⟩)
theorem pn26 : plainFor (⟨"java/lang/String", "<init>", "(Ljava/lang/StringBuilder;)V"⟩ : MethodName) = true := by first | (refine plainFor_of_name ?_; simp [plainName, overriddenIn]; done) | (refine plainFor_of_name ?_; decide +kernel) | decide +kernel
theorem pd17 : parseMethodDescriptor "(Ljava/lang/AbstractStringBuilder;Ljava/lang/Void;)V" = some ⟨[(.object "java/lang/AbstractStringBuilder"), (.object "java/lang/Void")], none⟩ := by decide +kernel
def B_rm_ssb : Prog := [(0, .aload_n 0, 1), (1, .aload_n 1, 1), (2, .aconst_null, 1), (3, .invokespecial 489, 3), (6, .return_, 1)]
theorem B_rm_ssb_ok : okB jdk_42_method_53_code B_rm_ssb = true := by decide +kernel
set_option maxRecDepth 65536 in
set_option maxHeartbeats 40000000 in
theorem rm_ssb (l : Launch) (Z : State) (a0 : Array Value) (hw : ∀ d ∈ tables_1, d.before a0 Z = true) (ra ba vb : Addr) (cs : List Int32) (cn : Int32) (cz : Int32) (S1 : Sta Z Z.heap "java/lang/String" "COMPACT_STRINGS" "Z" (.int cz)) (hcz : cz ≠ 0) (hc : cn.toInt = cs.length) (hlt : cs.length < 16) : Ct l Z EL1 nw1 (⟨"java/lang/String", "<init>", "(Ljava/lang/StringBuilder;)V"⟩ : MethodName) jdk_42_method_53_code 2 none [] ({ frames := 4, cells := 1, slots := 16, locals := 65 } : Room) [.ref ra, .ref ba] [(ra, true, .inl kS, [.int 0, .null]), (ba, true, .inl kSB, [.ref vb, .int 0, .int cn]), (vb, true, .inr .byte, (sbv cs).map bt)] (fun v L => v = none ∧ ∃ rb : Addr, L = [(ra, true, .inl kS, [.int 0, .ref rb]), (rb, true, .inr .byte, cs.map bt)]) := by
  refine ct_of pn26 (B := B_rm_ssb) (ls := [.val (.ref ra), .val (.ref ba)]) B_rm_ssb_ok (ew1 hw) (fun m => by first | (simp [entryFrame, mkF, argsToLocals, Value.category]; done) | rfl) (fun K C => ?_)
  refine wp_blk C 0 3 (pc' := 3) (ls' := [.val (.ref ra), .val (.ref ba)]) (st' := [.null, .ref ba, .ref ra]) rfl ?_
  refine wp_init C (al := [.ref ba, .null]) (rest := []) (L1 := []) (W := 0) (cells' := 1) (slots' := 16) 3 6 (rm_sab l Z a0 hw ra ba vb cs cn cz S1 hcz hc hlt) rfl rfl (wd hw 117 rfl) (wd hw 118 rfl) (wd hw 119 rfl) (wd hw 2 rfl) rfl (by decide) pd17 rfl rfl rfl rfl (by decide) (by decide) rfl rfl rfl (by decide) (by decide) (fun v L' hQ => ?_)
  obtain ⟨rfl, rb, rfl⟩ := hQ
  show Wp K 1 16 [(ra, true, .inl kS, [.int 0, .ref rb]), (rb, true, .inr .byte, cs.map bt)] 6 [.val (.ref ra), .val (.ref ba)] []
  exact wp_ret0 C 4 rfl (by decide) (by decide) (⟨rfl, rb, rfl⟩)
theorem pn27 : plainFor (⟨"java/lang/StringBuilder", "toString", "()Ljava/lang/String;"⟩ : MethodName) = true := by first | (refine plainFor_of_name ?_; simp [plainName, overriddenIn]; done) | (refine plainFor_of_name ?_; decide +kernel) | decide +kernel
theorem pd18 : parseMethodDescriptor "(Ljava/lang/StringBuilder;)V" = some ⟨[(.object "java/lang/StringBuilder")], none⟩ := by decide +kernel
def B_rm_tos : Prog := [(0, .new 18, 3), (3, .dup, 1), (4, .aload_n 0, 1), (5, .invokespecial 137, 3), (8, .areturn, 1)]
theorem B_rm_tos_ok : okB jdk_67_method_42_code B_rm_tos = true := by decide +kernel
set_option maxRecDepth 65536 in
set_option maxHeartbeats 40000000 in
theorem rm_tos (l : Launch) (Z : State) (a0 : Array Value) (hw : ∀ d ∈ tables_1, d.before a0 Z = true) (ba vb : Addr) (cs : List Int32) (cn : Int32) (cz : Int32) (S1 : Sta Z Z.heap "java/lang/String" "COMPACT_STRINGS" "Z" (.int cz)) (hcz : cz ≠ 0) (hc : cn.toInt = cs.length) (hlt : cs.length < 16) : Ct l Z EL1 nw1 (⟨"java/lang/StringBuilder", "toString", "()Ljava/lang/String;"⟩ : MethodName) jdk_67_method_42_code 1 (some (.object "java/lang/String")) [] ({ frames := 5, cells := 2, slots := 20, locals := 79 } : Room) [.ref ba] [(ba, true, .inl kSB, [.ref vb, .int 0, .int cn]), (vb, true, .inr .byte, (sbv cs).map bt)] (fun v L => ∃ ra rb : Addr, v = some (.ref ra) ∧ L = [(ra, true, .inl kS, [.int 0, .ref rb]), (rb, true, .inr .byte, cs.map bt)]) := by
  refine ct_of pn27 (B := B_rm_tos) (ls := [.val (.ref ba)]) B_rm_tos_ok (ew1 hw) (fun m => by first | (simp [entryFrame, mkF, argsToLocals, Value.category]; done) | rfl) (fun K C => ?_)
  refine wp_new C (Kc := kS) (cells' := 1) (slots' := 4) 0 3 rfl rfl (wd hw 113 rfl) (wd hw 1 rfl) (wd hw 2 rfl) (kS_ok hw) kS_df rfl rfl (by decide) (by decide) (fun ra => ?_)
  refine wp_blk C 1 2 (pc' := 5) (ls' := [.val (.ref ba)]) (st' := [.ref ba, .ref ra, .ref ra]) rfl ?_
  refine wp_init C (al := [.ref ba]) (rest := [.ref ra]) (L1 := []) (W := 1) (cells' := 2) (slots' := 20) 3 8 (rm_ssb l Z a0 hw ra ba vb cs cn cz S1 hcz hc hlt) rfl rfl (wd hw 114 rfl) (wd hw 115 rfl) (wd hw 116 rfl) (wd hw 2 rfl) rfl (by decide) pd18 rfl rfl rfl rfl (by decide) (by decide) rfl rfl rfl (by decide) (by decide) (fun v L' hQ => ?_)
  obtain ⟨rfl, rb, rfl⟩ := hQ
  show Wp K 2 20 [(ra, true, .inl kS, [.int 0, .ref rb]), (rb, true, .inr .byte, cs.map bt)] 8 [.val (.ref ba)] [.ref ra]
  exact wp_retA C 4 rfl rfl rfl (by decide) (by decide) (⟨ra, rb, rfl, rfl⟩)
def kE : Kd := ("com/example/remitter/remitter/ConfigException", [("java/lang/Throwable", "cause", "Ljava/lang/Throwable;"), ("java/lang/Throwable", "stackTrace", "[Ljava/lang/StackTraceElement;"), ("java/lang/Throwable", "suppressedExceptions", "Ljava/util/List;"), ("java/lang/Throwable", "detailMessage", "Ljava/lang/String;"), ("java/lang/Throwable", "backtrace", "Ljava/lang/Object;"), ("java/lang/Throwable", "depth", "I")])
theorem kE_ok {Z : State} {a0 : Array Value} (hw : ∀ d ∈ tables_1, d.before a0 Z = true) : KOk Z a0 kE := ⟨⟨⟨Or.inl (wd hw 169 rfl), by decide +kernel⟩, ⟨⟨Or.inl (wd hw 172 rfl), by decide +kernel⟩, ⟨⟨Or.inl (wd hw 175 rfl), by decide +kernel⟩, ⟨⟨Or.inl (wd hw 199 rfl), by decide +kernel⟩, ⟨⟨Or.inl (wd hw 200 rfl), by decide +kernel⟩, ⟨⟨Or.inl (wd hw 201 rfl), by decide +kernel⟩, trivial⟩⟩⟩⟩⟩⟩, by decide +kernel⟩
theorem kE_df : defs kE = [.null, .null, .null, .null, .null, .int 0] := by decide +kernel
def kEm : Kd := ("com/example/remitter/remitter/ConfigException", [("java/lang/Throwable", "detailMessage", "Ljava/lang/String;")])
theorem fw_in : ∀ d ∈ fw "com/example/remitter/remitter/ConfigException", d ∈ tables_1 := by decide +kernel
theorem lat_key : Lat [107, 101, 121, 32, 39] := by intro c hc; simp only [List.mem_cons, List.not_mem_nil, or_false] at hc; rcases hc with rfl | rfl | rfl | rfl | rfl <;> decide
theorem lat_sep : Lat [39, 58, 32] := by intro c hc; simp only [List.mem_cons, List.not_mem_nil, or_false] at hc; rcases hc with rfl | rfl | rfl <;> decide
theorem lat_app {cs ds : List Int32} (h : Lat cs) (k : Lat ds) : Lat (cs ++ ds) := fun c hc => (List.mem_append.mp hc).elim (h c) (k c)
theorem lat_nil : Lat [] := fun c hc => nomatch hc
theorem kEm_ok {Z : State} {a0 : Array Value} (hw : ∀ d ∈ tables_1, d.before a0 Z = true) : KOk Z a0 kEm := ⟨⟨⟨Or.inl (wd hw 199 rfl), by decide +kernel⟩, trivial⟩, by decide +kernel⟩
theorem pn28 : plainFor (⟨"java/lang/Throwable", "<init>", "(Ljava/lang/String;)V"⟩ : MethodName) = true := by first | (refine plainFor_of_name ?_; simp [plainName, overriddenIn]; done) | (refine plainFor_of_name ?_; decide +kernel) | decide +kernel
theorem fd3 : parseFieldDescriptor "Ljava/lang/Throwable;" = some (.object "java/lang/Throwable") := by decide +kernel
theorem fd4 : parseFieldDescriptor "[Ljava/lang/StackTraceElement;" = some (.array (.object "java/lang/StackTraceElement")) := by decide +kernel
theorem fd5 : parseFieldDescriptor "Ljava/util/List;" = some (.object "java/util/List") := by decide +kernel
theorem fd6 : parseFieldDescriptor "Ljava/lang/String;" = some (.object "java/lang/String") := by decide +kernel
def B_rm_thi : Prog := [(0, .aload_n 0, 1), (1, .invokespecial 1, 3), (4, .aload_n 0, 1), (5, .aload_n 0, 1), (6, .putfield 7, 3), (9, .aload_n 0, 1), (10, .getstatic 13, 3), (13, .putfield 17, 3), (16, .aload_n 0, 1), (17, .getstatic 20, 3), (20, .putfield 24, 3), (23, .aload_n 0, 1), (24, .invokevirtual 27, 3), (27, .pop, 1), (28, .aload_n 0, 1), (29, .aload_n 1, 1), (30, .putfield 31, 3), (33, .return_, 1)]
theorem B_rm_thi_ok : okB jdk_78_method_2_code B_rm_thi = true := by decide +kernel
set_option maxRecDepth 65536 in
set_option maxHeartbeats 40000000 in
theorem rm_thi (l : Launch) (Z : State) (a0 : Array Value) (hw : ∀ d ∈ tables_1, d.before a0 Z = true) (ea ra : Addr) (hl : l.stackTraces = true) (ua sv : Addr) (SU : Sta Z Z.heap "java/lang/Throwable" "UNASSIGNED_STACK" "[Ljava/lang/StackTraceElement;" (.ref ua)) (SS : Sta Z Z.heap "java/lang/Throwable" "SUPPRESSED_SENTINEL" "Ljava/util/List;" (.ref sv)) : CtK l Z EL1 nw1 (⟨"java/lang/Throwable", "<init>", "(Ljava/lang/String;)V"⟩ : MethodName) jdk_78_method_2_code 2 none [] ({ frames := 3, cells := 1, slots := 2752, locals := 42 } : Room) [.ref ea, .ref ra] [(ea, true, .inl kE, [.null, .null, .null, .null, .null, .int 0])] (fun v L => v = none ∧ L = [(ea, true, .inl kEm, [.ref ra])]) := by
  refine ct_ofK pn28 (B := B_rm_thi) (ls := [.val (.ref ea), .val (.ref ra)]) B_rm_thi_ok (ew1 hw) (fun m => by first | (simp [entryFrame, mkF, argsToLocals, Value.category]; done) | rfl) (fun K C hKn => ?_)
  refine wp_blk C 0 1 (pc' := 1) (ls' := [.val (.ref ea), .val (.ref ra)]) (st' := [.ref ea]) rfl ?_
  refine wp_initO C (W := 0) 1 4 rfl rfl (wd hw 167 rfl) (wd hw 12 rfl) (wd hw 13 rfl) (by decide) rfl (by decide) rfl ?_
  refine wp_blk C 2 2 (pc' := 6) (ls' := [.val (.ref ea), .val (.ref ra)]) (st' := [.ref ea, .ref ea]) rfl ?_
  refine wp_put C (ty := (.object "java/lang/Throwable")) (v := .ref ea) (vs' := [.ref ea, .null, .null, .null, .null, .int 0]) (L' := [(ea, true, .inl kE, [.ref ea, .null, .null, .null, .null, .int 0])]) 4 9 0 0 rfl rfl (wd hw 168 rfl) Via.refl (Or.inl (wd hw 169 rfl)) (wd hw 35 rfl) (kE_ok hw) fd3 rfl rfl rfl rfl rfl rfl rfl ?_
  refine wp_blk C 5 1 (pc' := 10) (ls' := [.val (.ref ea), .val (.ref ra)]) (st' := [.ref ea]) rfl ?_
  refine wp_getS C 6 13 rfl rfl (wd hw 170 rfl) Via.refl SU ?_
  refine wp_put C (ty := (.array (.object "java/lang/StackTraceElement"))) (v := .ref ua) (vs' := [.ref ea, .ref ua, .null, .null, .null, .int 0]) (L' := [(ea, true, .inl kE, [.ref ea, .ref ua, .null, .null, .null, .int 0])]) 7 16 0 1 rfl rfl (wd hw 171 rfl) Via.refl (Or.inl (wd hw 172 rfl)) (wd hw 35 rfl) (kE_ok hw) fd4 rfl rfl rfl rfl rfl rfl rfl ?_
  refine wp_blk C 8 1 (pc' := 17) (ls' := [.val (.ref ea), .val (.ref ra)]) (st' := [.ref ea]) rfl ?_
  refine wp_getS C 9 20 rfl rfl (wd hw 173 rfl) Via.refl SS ?_
  refine wp_put C (ty := (.object "java/util/List")) (v := .ref sv) (vs' := [.ref ea, .ref ua, .ref sv, .null, .null, .int 0]) (L' := [(ea, true, .inl kE, [.ref ea, .ref ua, .ref sv, .null, .null, .int 0])]) 10 23 0 2 rfl rfl (wd hw 174 rfl) Via.refl (Or.inl (wd hw 175 rfl)) (wd hw 35 rfl) (kE_ok hw) fd5 rfl rfl rfl rfl rfl rfl rfl ?_
  refine wp_blk C 11 1 (pc' := 24) (ls' := [.val (.ref ea), .val (.ref ra)]) (st' := [.ref ea]) rfl ?_
  refine wp_fill C hKn hl (n := 6) (W := 0) (fb := 4) (fs := 1) (fm := 3) (v := .null) (L' := [(ea, true, .inl kEm, [.null])]) (cells' := 1) (slots' := 2752) 12 27 0 rfl rfl rfl (fun d h => hw d (fw_in d h)) (wd hw 35 rfl) SU rfl rfl rfl rfl rfl rfl rfl rfl (by decide) rfl (by decide) rfl rfl rfl (by decide) (by decide) ?_
  refine wp_blk C 13 3 (pc' := 30) (ls' := [.val (.ref ea), .val (.ref ra)]) (st' := [.ref ra, .ref ea]) rfl ?_
  refine wp_put C (ty := (.object "java/lang/String")) (v := .ref ra) (vs' := [.ref ra]) (L' := [(ea, true, .inl kEm, [.ref ra])]) 16 33 0 0 rfl rfl (wd hw 203 rfl) Via.refl (Or.inl (wd hw 199 rfl)) (wd hw 35 rfl) (kEm_ok hw) fd6 rfl rfl rfl rfl rfl rfl rfl ?_
  exact wp_ret0 C 17 rfl (by decide) (by decide) (⟨rfl, rfl⟩)
theorem pn29 : plainFor (⟨"java/lang/Exception", "<init>", "(Ljava/lang/String;)V"⟩ : MethodName) = true := by first | (refine plainFor_of_name ?_; simp [plainName, overriddenIn]; done) | (refine plainFor_of_name ?_; decide +kernel) | decide +kernel
def B_rm_exi : Prog := [(0, .aload_n 0, 1), (1, .aload_n 1, 1), (2, .invokespecial 7, 3), (5, .return_, 1)]
theorem B_rm_exi_ok : okB jdk_59_method_2_code B_rm_exi = true := by decide +kernel
set_option maxRecDepth 65536 in
set_option maxHeartbeats 40000000 in
theorem rm_exi (l : Launch) (Z : State) (a0 : Array Value) (hw : ∀ d ∈ tables_1, d.before a0 Z = true) (ea ra : Addr) (hl : l.stackTraces = true) (ua sv : Addr) (SU : Sta Z Z.heap "java/lang/Throwable" "UNASSIGNED_STACK" "[Ljava/lang/StackTraceElement;" (.ref ua)) (SS : Sta Z Z.heap "java/lang/Throwable" "SUPPRESSED_SENTINEL" "Ljava/util/List;" (.ref sv)) : CtK l Z EL1 nw1 (⟨"java/lang/Exception", "<init>", "(Ljava/lang/String;)V"⟩ : MethodName) jdk_59_method_2_code 2 none [] ({ frames := 4, cells := 1, slots := 2752, locals := 55 } : Room) [.ref ea, .ref ra] [(ea, true, .inl kE, [.null, .null, .null, .null, .null, .int 0])] (fun v L => v = none ∧ L = [(ea, true, .inl kEm, [.ref ra])]) := by
  refine ct_ofK pn29 (B := B_rm_exi) (ls := [.val (.ref ea), .val (.ref ra)]) B_rm_exi_ok (ew1 hw) (fun m => by first | (simp [entryFrame, mkF, argsToLocals, Value.category]; done) | rfl) (fun K C hKn => ?_)
  refine wp_blk C 0 2 (pc' := 2) (ls' := [.val (.ref ea), .val (.ref ra)]) (st' := [.ref ra, .ref ea]) rfl ?_
  refine wp_initK C hKn (al := [.ref ra]) (rest := []) (L1 := []) (W := 0) (cells' := 1) (slots' := 2752) 2 5 (rm_thi l Z a0 hw ea ra hl ua sv SU SS) rfl rfl (wd hw 161 rfl) (wd hw 162 rfl) (wd hw 166 rfl) (wd hw 165 rfl) rfl (by decide) pd10 rfl rfl rfl rfl (by decide) (by decide) rfl rfl rfl (by decide) (by decide) (fun v L' hQ => ?_)
  obtain ⟨rfl, rfl⟩ := hQ
  show Wp K 1 2752 [(ea, true, .inl kEm, [.ref ra])] 5 [.val (.ref ea), .val (.ref ra)] []
  exact wp_ret0 C 3 rfl (by decide) (by decide) (⟨rfl, rfl⟩)
theorem pn30 : plainFor (⟨"com/example/remitter/remitter/ConfigException", "<init>", "(Ljava/lang/String;)V"⟩ : MethodName) = true := by first | (refine plainFor_of_name ?_; simp [plainName, overriddenIn]; done) | (refine plainFor_of_name ?_; decide +kernel) | decide +kernel
def B_rm_cei : Prog := [(0, .aload_n 0, 1), (1, .aload_n 1, 1), (2, .invokespecial 1, 3), (5, .return_, 1)]
theorem B_rm_cei_ok : okB prog_1_method_1_code B_rm_cei = true := by decide +kernel
set_option maxRecDepth 65536 in
set_option maxHeartbeats 40000000 in
theorem rm_cei (l : Launch) (Z : State) (a0 : Array Value) (hw : ∀ d ∈ tables_1, d.before a0 Z = true) (ea ra : Addr) (hl : l.stackTraces = true) (ua sv : Addr) (SU : Sta Z Z.heap "java/lang/Throwable" "UNASSIGNED_STACK" "[Ljava/lang/StackTraceElement;" (.ref ua)) (SS : Sta Z Z.heap "java/lang/Throwable" "SUPPRESSED_SENTINEL" "Ljava/util/List;" (.ref sv)) : CtK l Z EL1 nw1 (⟨"com/example/remitter/remitter/ConfigException", "<init>", "(Ljava/lang/String;)V"⟩ : MethodName) prog_1_method_1_code 2 none [] ({ frames := 5, cells := 1, slots := 2752, locals := 68 } : Room) [.ref ea, .ref ra] [(ea, true, .inl kE, [.null, .null, .null, .null, .null, .int 0])] (fun v L => v = none ∧ L = [(ea, true, .inl kEm, [.ref ra])]) := by
  refine ct_ofK pn30 (B := B_rm_cei) (ls := [.val (.ref ea), .val (.ref ra)]) B_rm_cei_ok (ew1 hw) (fun m => by first | (simp [entryFrame, mkF, argsToLocals, Value.category]; done) | rfl) (fun K C hKn => ?_)
  refine wp_blk C 0 2 (pc' := 2) (ls' := [.val (.ref ea), .val (.ref ra)]) (st' := [.ref ra, .ref ea]) rfl ?_
  refine wp_initK C hKn (al := [.ref ra]) (rest := []) (L1 := []) (W := 0) (cells' := 1) (slots' := 2752) 2 5 (rm_exi l Z a0 hw ea ra hl ua sv SU SS) rfl rfl (wd hw 156 rfl) (wd hw 157 rfl) (wd hw 160 rfl) (wd hw 159 rfl) rfl (by decide) pd10 rfl rfl rfl rfl (by decide) (by decide) rfl rfl rfl (by decide) (by decide) (fun v L' hQ => ?_)
  obtain ⟨rfl, rfl⟩ := hQ
  show Wp K 1 2752 [(ea, true, .inl kEm, [.ref ra])] 5 [.val (.ref ea), .val (.ref ra)] []
  exact wp_ret0 C 3 rfl (by decide) (by decide) (⟨rfl, rfl⟩)
theorem pn31 : plainFor (⟨"com/example/remitter/remitter/ConfigException", "naming", "(Ljava/lang/String;Ljava/lang/String;)Ljava/lang/String;"⟩ : MethodName) = true := by first | (refine plainFor_of_name ?_; simp [plainName, overriddenIn]; done) | (refine plainFor_of_name ?_; decide +kernel) | decide +kernel
theorem pd19 : parseMethodDescriptor "()V" = some ⟨[], none⟩ := by decide +kernel
theorem pd20 : parseMethodDescriptor "(Ljava/lang/String;)Ljava/lang/StringBuilder;" = some ⟨[(.object "java/lang/String")], (some (.object "java/lang/StringBuilder"))⟩ := by decide +kernel
theorem pd21 : parseMethodDescriptor "()Ljava/lang/String;" = some ⟨[], (some (.object "java/lang/String"))⟩ := by decide +kernel
def B_rm_nam : Prog := [(0, .new 14, 3), (3, .dup, 1), (4, .invokespecial 16, 3), (7, .ldc 19, 2), (9, .invokevirtual 21, 3), (12, .aload_n 0, 1), (13, .invokevirtual 21, 3), (16, .ldc 25, 2), (18, .invokevirtual 21, 3), (21, .aload_n 1, 1), (22, .invokevirtual 21, 3), (25, .invokevirtual 27, 3), (28, .areturn, 1)]
theorem B_rm_nam_ok : okB prog_1_method_3_code B_rm_nam = true := by decide +kernel
set_option maxRecDepth 65536 in
set_option maxHeartbeats 40000000 in
theorem rm_nam (l : Launch) (Z : State) (a0 : Array Value) (hw : ∀ d ∈ tables_1, d.before a0 Z = true) (t1 b1 t2 b2 : Addr) (c1 c2 : List Int32) (cz : Int32) (S1 : Sta Z Z.heap "java/lang/String" "COMPACT_STRINGS" "Z" (.int cz)) (hcz : cz ≠ 0) (k1 : c1.length = 2) (k2 : c2.length = 2) : Ct l Z EL1 nw1 (⟨"com/example/remitter/remitter/ConfigException", "naming", "(Ljava/lang/String;Ljava/lang/String;)Ljava/lang/String;"⟩ : MethodName) prog_1_method_3_code 2 (some (.object "java/lang/String")) [] ({ frames := 6, cells := 8, slots := 80, locals := 91 } : Room) [.ref t1, .ref t2] [(t1, true, .inl kS, [.int 0, .ref b1]), (b1, true, .inr .byte, c1.map bt), (t2, true, .inl kS, [.int 0, .ref b2]), (b2, true, .inr .byte, c2.map bt)] (fun v L => ∃ ra rb : Addr, v = some (.ref ra) ∧ L = [(ra, true, .inl kS, [.int 0, .ref rb]), (rb, true, .inr .byte, ([] ++ [107, 101, 121, 32, 39] ++ c1 ++ [39, 58, 32] ++ c2).map bt)]) := by
  refine ct_of pn31 (B := B_rm_nam) (ls := [.val (.ref t1), .val (.ref t2)]) B_rm_nam_ok (ew1 hw) (fun m => by first | (simp [entryFrame, mkF, argsToLocals, Value.category]; done) | rfl) (fun K C => ?_)
  refine wp_new C (Kc := kSB) (cells' := 1) (slots' := 4) 0 3 rfl rfl (wd hw 39 rfl) (wd hw 40 rfl) (wd hw 41 rfl) (kSB_ok hw) kSB_df rfl rfl (by decide) (by decide) (fun ba => ?_)
  refine wp_blk C 1 1 (pc' := 4) (ls' := [.val (.ref t1), .val (.ref t2)]) (st' := [.ref ba, .ref ba]) rfl ?_
  refine wp_init C (al := []) (rest := [.ref ba]) (L1 := [(t1, true, .inl kS, [.int 0, .ref b1]), (b1, true, .inr .byte, c1.map bt), (t2, true, .inl kS, [.int 0, .ref b2]), (b2, true, .inr .byte, c2.map bt)]) (W := 1) (cells' := 2) (slots' := 20) 2 7 (rm_sbi l Z a0 hw ba cz S1 hcz) rfl rfl (wd hw 42 rfl) (wd hw 43 rfl) (wd hw 44 rfl) (wd hw 41 rfl) rfl (by decide) pd19 rfl rfl rfl rfl (by decide) (by decide) rfl rfl rfl (by decide) (by decide) (fun v L' hQ => ?_)
  obtain ⟨rfl, vb, rfl⟩ := hQ
  show Wp K 2 20 [(ba, true, .inl kSB, [.ref vb, .int 0, .int 0]), (vb, true, .inr .byte, (sbv ([])).map bt), (t1, true, .inl kS, [.int 0, .ref b1]), (b1, true, .inr .byte, c1.map bt), (t2, true, .inl kS, [.int 0, .ref b2]), (b2, true, .inr .byte, c2.map bt)] 7 [.val (.ref t1), .val (.ref t2)] [.ref ba]
  refine wp_ldcC C (n := 20) (vs := [.int 107, .int 101, .int 121, .int 32, .int 39]) (Kc := kS) (mk := fun b => [.int 0, .ref b]) (cells' := 4) (slots' := 44) 5 3 9 rfl rfl (wd hw 57 rfl) (sat hw) (by decide) (by decide +kernel) (by decide) (by decide) (by decide) (Or.inr ⟨rfl, rfl⟩) (by decide) (by decide) rfl rfl (by decide) (by decide) (fun u1 v1 => ?_)
  refine wp_front C 1 (L' := [(v1, false, .inr .byte, [.int 107, .int 101, .int 121, .int 32, .int 39]), (u1, false, .inl kS, [.int 0, .ref v1]), (ba, true, .inl kSB, [.ref vb, .int 0, .int 0]), (vb, true, .inr .byte, (sbv ([])).map bt), (t1, true, .inl kS, [.int 0, .ref b1]), (b1, true, .inr .byte, c1.map bt), (t2, true, .inl kS, [.int 0, .ref b2]), (b2, true, .inr .byte, c2.map bt)]) rfl ?_
  refine wp_front C 1 (L' := [(u1, false, .inl kS, [.int 0, .ref v1]), (v1, false, .inr .byte, [.int 107, .int 101, .int 121, .int 32, .int 39]), (ba, true, .inl kSB, [.ref vb, .int 0, .int 0]), (vb, true, .inr .byte, (sbv ([])).map bt), (t1, true, .inl kS, [.int 0, .ref b1]), (b1, true, .inr .byte, c1.map bt), (t2, true, .inl kS, [.int 0, .ref b2]), (b2, true, .inr .byte, c2.map bt)]) rfl ?_
  refine wp_front C 3 (L' := [(vb, true, .inr .byte, (sbv ([])).map bt), (u1, false, .inl kS, [.int 0, .ref v1]), (v1, false, .inr .byte, [.int 107, .int 101, .int 121, .int 32, .int 39]), (ba, true, .inl kSB, [.ref vb, .int 0, .int 0]), (t1, true, .inl kS, [.int 0, .ref b1]), (b1, true, .inr .byte, c1.map bt), (t2, true, .inl kS, [.int 0, .ref b2]), (b2, true, .inr .byte, c2.map bt)]) rfl ?_
  refine wp_front C 3 (L' := [(ba, true, .inl kSB, [.ref vb, .int 0, .int 0]), (vb, true, .inr .byte, (sbv ([])).map bt), (u1, false, .inl kS, [.int 0, .ref v1]), (v1, false, .inr .byte, [.int 107, .int 101, .int 121, .int 32, .int 39]), (t1, true, .inl kS, [.int 0, .ref b1]), (b1, true, .inr .byte, c1.map bt), (t2, true, .inl kS, [.int 0, .ref b2]), (b2, true, .inr .byte, c2.map bt)]) rfl ?_
  refine wp_virtual C (al := [.ref u1]) (rest := []) (L1 := [(t1, true, .inl kS, [.int 0, .ref b1]), (b1, true, .inr .byte, c1.map bt), (t2, true, .inl kS, [.int 0, .ref b2]), (b2, true, .inr .byte, c2.map bt)]) (W := 0) (cells' := 4) (slots' := 44) 4 12 0 (rm_sap l Z a0 hw ba vb u1 v1 false false ([]) [107, 101, 121, 32, 39] 0 cz S1 hcz rfl (by first | (simp; done) | (simp; omega))) rfl rfl rfl (wd hw 60 rfl) (wd hw 61 rfl) (nf_self (wd hw 63 rfl)) (wd hw 63 rfl) (wd hw 62 rfl) (wd hw 64 rfl) (wd hw 41 rfl) (by decide) pd20 rfl rfl rfl rfl (by decide) (by decide) rfl rfl rfl (by decide) (by decide) (fun v L' hQ => ?_)
  obtain ⟨n0, Hn0, rfl, rfl⟩ := hQ
  show Wp K 4 44 [(ba, true, .inl kSB, [.ref vb, .int 0, .int n0]), (vb, true, .inr .byte, (sbv ([] ++ [107, 101, 121, 32, 39])).map bt), (u1, false, .inl kS, [.int 0, .ref v1]), (v1, false, .inr .byte, ([107, 101, 121, 32, 39]).map bt), (t1, true, .inl kS, [.int 0, .ref b1]), (b1, true, .inr .byte, c1.map bt), (t2, true, .inl kS, [.int 0, .ref b2]), (b2, true, .inr .byte, c2.map bt)] 12 [.val (.ref t1), .val (.ref t2)] [.ref ba]
  refine wp_drop C 2 (L' := [(ba, true, .inl kSB, [.ref vb, .int 0, .int n0]), (vb, true, .inr .byte, (sbv ([] ++ [107, 101, 121, 32, 39])).map bt), (v1, false, .inr .byte, ([107, 101, 121, 32, 39]).map bt), (t1, true, .inl kS, [.int 0, .ref b1]), (b1, true, .inr .byte, c1.map bt), (t2, true, .inl kS, [.int 0, .ref b2]), (b2, true, .inr .byte, c2.map bt)]) rfl ?_
  refine wp_drop C 2 (L' := [(ba, true, .inl kSB, [.ref vb, .int 0, .int n0]), (vb, true, .inr .byte, (sbv ([] ++ [107, 101, 121, 32, 39])).map bt), (t1, true, .inl kS, [.int 0, .ref b1]), (b1, true, .inr .byte, c1.map bt), (t2, true, .inl kS, [.int 0, .ref b2]), (b2, true, .inr .byte, c2.map bt)]) rfl ?_
  refine wp_blk C 5 1 (pc' := 13) (ls' := [.val (.ref t1), .val (.ref t2)]) (st' := [.ref t1, .ref ba]) rfl ?_
  refine wp_virtual C (al := [.ref t1]) (rest := []) (L1 := [(t2, true, .inl kS, [.int 0, .ref b2]), (b2, true, .inr .byte, c2.map bt)]) (W := 0) (cells' := 4) (slots' := 44) 6 16 0 (rm_sap l Z a0 hw ba vb t1 b1 true true ([] ++ [107, 101, 121, 32, 39]) c1 n0 cz S1 hcz Hn0 (by first | (simp; done) | (simp; omega))) rfl rfl rfl (wd hw 60 rfl) (wd hw 61 rfl) (nf_self (wd hw 63 rfl)) (wd hw 63 rfl) (wd hw 62 rfl) (wd hw 64 rfl) (wd hw 41 rfl) (by decide) pd20 rfl rfl rfl rfl (by decide) (by decide) rfl rfl rfl (by decide) (by decide) (fun v L' hQ => ?_)
  obtain ⟨n1, Hn1, rfl, rfl⟩ := hQ
  show Wp K 4 44 [(ba, true, .inl kSB, [.ref vb, .int 0, .int n1]), (vb, true, .inr .byte, (sbv ([] ++ [107, 101, 121, 32, 39] ++ c1)).map bt), (t1, true, .inl kS, [.int 0, .ref b1]), (b1, true, .inr .byte, c1.map bt), (t2, true, .inl kS, [.int 0, .ref b2]), (b2, true, .inr .byte, c2.map bt)] 16 [.val (.ref t1), .val (.ref t2)] [.ref ba]
  refine wp_ldcC C (n := 12) (vs := [.int 39, .int 58, .int 32]) (Kc := kS) (mk := fun b => [.int 0, .ref b]) (cells' := 6) (slots' := 60) 3 7 18 rfl rfl (wd hw 107 rfl) (sat hw) (by decide) (by decide +kernel) (by decide) (by decide) (by decide) (Or.inr ⟨rfl, rfl⟩) (by decide) (by decide) rfl rfl (by decide) (by decide) (fun u2 v2 => ?_)
  refine wp_front C 1 (L' := [(v2, false, .inr .byte, [.int 39, .int 58, .int 32]), (u2, false, .inl kS, [.int 0, .ref v2]), (ba, true, .inl kSB, [.ref vb, .int 0, .int n1]), (vb, true, .inr .byte, (sbv ([] ++ [107, 101, 121, 32, 39] ++ c1)).map bt), (t1, true, .inl kS, [.int 0, .ref b1]), (b1, true, .inr .byte, c1.map bt), (t2, true, .inl kS, [.int 0, .ref b2]), (b2, true, .inr .byte, c2.map bt)]) rfl ?_
  refine wp_front C 1 (L' := [(u2, false, .inl kS, [.int 0, .ref v2]), (v2, false, .inr .byte, [.int 39, .int 58, .int 32]), (ba, true, .inl kSB, [.ref vb, .int 0, .int n1]), (vb, true, .inr .byte, (sbv ([] ++ [107, 101, 121, 32, 39] ++ c1)).map bt), (t1, true, .inl kS, [.int 0, .ref b1]), (b1, true, .inr .byte, c1.map bt), (t2, true, .inl kS, [.int 0, .ref b2]), (b2, true, .inr .byte, c2.map bt)]) rfl ?_
  refine wp_front C 3 (L' := [(vb, true, .inr .byte, (sbv ([] ++ [107, 101, 121, 32, 39] ++ c1)).map bt), (u2, false, .inl kS, [.int 0, .ref v2]), (v2, false, .inr .byte, [.int 39, .int 58, .int 32]), (ba, true, .inl kSB, [.ref vb, .int 0, .int n1]), (t1, true, .inl kS, [.int 0, .ref b1]), (b1, true, .inr .byte, c1.map bt), (t2, true, .inl kS, [.int 0, .ref b2]), (b2, true, .inr .byte, c2.map bt)]) rfl ?_
  refine wp_front C 3 (L' := [(ba, true, .inl kSB, [.ref vb, .int 0, .int n1]), (vb, true, .inr .byte, (sbv ([] ++ [107, 101, 121, 32, 39] ++ c1)).map bt), (u2, false, .inl kS, [.int 0, .ref v2]), (v2, false, .inr .byte, [.int 39, .int 58, .int 32]), (t1, true, .inl kS, [.int 0, .ref b1]), (b1, true, .inr .byte, c1.map bt), (t2, true, .inl kS, [.int 0, .ref b2]), (b2, true, .inr .byte, c2.map bt)]) rfl ?_
  refine wp_virtual C (al := [.ref u2]) (rest := []) (L1 := [(t1, true, .inl kS, [.int 0, .ref b1]), (b1, true, .inr .byte, c1.map bt), (t2, true, .inl kS, [.int 0, .ref b2]), (b2, true, .inr .byte, c2.map bt)]) (W := 0) (cells' := 6) (slots' := 60) 8 21 0 (rm_sap l Z a0 hw ba vb u2 v2 false false ([] ++ [107, 101, 121, 32, 39] ++ c1) [39, 58, 32] n1 cz S1 hcz Hn1 (by first | (simp; done) | (simp; omega))) rfl rfl rfl (wd hw 60 rfl) (wd hw 61 rfl) (nf_self (wd hw 63 rfl)) (wd hw 63 rfl) (wd hw 62 rfl) (wd hw 64 rfl) (wd hw 41 rfl) (by decide) pd20 rfl rfl rfl rfl (by decide) (by decide) rfl rfl rfl (by decide) (by decide) (fun v L' hQ => ?_)
  obtain ⟨n2, Hn2, rfl, rfl⟩ := hQ
  show Wp K 6 60 [(ba, true, .inl kSB, [.ref vb, .int 0, .int n2]), (vb, true, .inr .byte, (sbv ([] ++ [107, 101, 121, 32, 39] ++ c1 ++ [39, 58, 32])).map bt), (u2, false, .inl kS, [.int 0, .ref v2]), (v2, false, .inr .byte, ([39, 58, 32]).map bt), (t1, true, .inl kS, [.int 0, .ref b1]), (b1, true, .inr .byte, c1.map bt), (t2, true, .inl kS, [.int 0, .ref b2]), (b2, true, .inr .byte, c2.map bt)] 21 [.val (.ref t1), .val (.ref t2)] [.ref ba]
  refine wp_drop C 2 (L' := [(ba, true, .inl kSB, [.ref vb, .int 0, .int n2]), (vb, true, .inr .byte, (sbv ([] ++ [107, 101, 121, 32, 39] ++ c1 ++ [39, 58, 32])).map bt), (v2, false, .inr .byte, ([39, 58, 32]).map bt), (t1, true, .inl kS, [.int 0, .ref b1]), (b1, true, .inr .byte, c1.map bt), (t2, true, .inl kS, [.int 0, .ref b2]), (b2, true, .inr .byte, c2.map bt)]) rfl ?_
  refine wp_drop C 2 (L' := [(ba, true, .inl kSB, [.ref vb, .int 0, .int n2]), (vb, true, .inr .byte, (sbv ([] ++ [107, 101, 121, 32, 39] ++ c1 ++ [39, 58, 32])).map bt), (t1, true, .inl kS, [.int 0, .ref b1]), (b1, true, .inr .byte, c1.map bt), (t2, true, .inl kS, [.int 0, .ref b2]), (b2, true, .inr .byte, c2.map bt)]) rfl ?_
  refine wp_blk C 9 1 (pc' := 22) (ls' := [.val (.ref t1), .val (.ref t2)]) (st' := [.ref t2, .ref ba]) rfl ?_
  refine wp_front C 5 (L' := [(b2, true, .inr .byte, c2.map bt), (ba, true, .inl kSB, [.ref vb, .int 0, .int n2]), (vb, true, .inr .byte, (sbv ([] ++ [107, 101, 121, 32, 39] ++ c1 ++ [39, 58, 32])).map bt), (t1, true, .inl kS, [.int 0, .ref b1]), (b1, true, .inr .byte, c1.map bt), (t2, true, .inl kS, [.int 0, .ref b2])]) rfl ?_
  refine wp_front C 5 (L' := [(t2, true, .inl kS, [.int 0, .ref b2]), (b2, true, .inr .byte, c2.map bt), (ba, true, .inl kSB, [.ref vb, .int 0, .int n2]), (vb, true, .inr .byte, (sbv ([] ++ [107, 101, 121, 32, 39] ++ c1 ++ [39, 58, 32])).map bt), (t1, true, .inl kS, [.int 0, .ref b1]), (b1, true, .inr .byte, c1.map bt)]) rfl ?_
  refine wp_front C 3 (L' := [(vb, true, .inr .byte, (sbv ([] ++ [107, 101, 121, 32, 39] ++ c1 ++ [39, 58, 32])).map bt), (t2, true, .inl kS, [.int 0, .ref b2]), (b2, true, .inr .byte, c2.map bt), (ba, true, .inl kSB, [.ref vb, .int 0, .int n2]), (t1, true, .inl kS, [.int 0, .ref b1]), (b1, true, .inr .byte, c1.map bt)]) rfl ?_
  refine wp_front C 3 (L' := [(ba, true, .inl kSB, [.ref vb, .int 0, .int n2]), (vb, true, .inr .byte, (sbv ([] ++ [107, 101, 121, 32, 39] ++ c1 ++ [39, 58, 32])).map bt), (t2, true, .inl kS, [.int 0, .ref b2]), (b2, true, .inr .byte, c2.map bt), (t1, true, .inl kS, [.int 0, .ref b1]), (b1, true, .inr .byte, c1.map bt)]) rfl ?_
  refine wp_virtual C (al := [.ref t2]) (rest := []) (L1 := [(t1, true, .inl kS, [.int 0, .ref b1]), (b1, true, .inr .byte, c1.map bt)]) (W := 0) (cells' := 6) (slots' := 60) 10 25 0 (rm_sap l Z a0 hw ba vb t2 b2 true true ([] ++ [107, 101, 121, 32, 39] ++ c1 ++ [39, 58, 32]) c2 n2 cz S1 hcz Hn2 (by first | (simp; done) | (simp; omega))) rfl rfl rfl (wd hw 60 rfl) (wd hw 61 rfl) (nf_self (wd hw 63 rfl)) (wd hw 63 rfl) (wd hw 62 rfl) (wd hw 64 rfl) (wd hw 41 rfl) (by decide) pd20 rfl rfl rfl rfl (by decide) (by decide) rfl rfl rfl (by decide) (by decide) (fun v L' hQ => ?_)
  obtain ⟨n3, Hn3, rfl, rfl⟩ := hQ
  show Wp K 6 60 [(ba, true, .inl kSB, [.ref vb, .int 0, .int n3]), (vb, true, .inr .byte, (sbv ([] ++ [107, 101, 121, 32, 39] ++ c1 ++ [39, 58, 32] ++ c2)).map bt), (t2, true, .inl kS, [.int 0, .ref b2]), (b2, true, .inr .byte, c2.map bt), (t1, true, .inl kS, [.int 0, .ref b1]), (b1, true, .inr .byte, c1.map bt)] 25 [.val (.ref t1), .val (.ref t2)] [.ref ba]
  refine wp_virtual C (al := []) (rest := []) (L1 := [(t2, true, .inl kS, [.int 0, .ref b2]), (b2, true, .inr .byte, c2.map bt), (t1, true, .inl kS, [.int 0, .ref b1]), (b1, true, .inr .byte, c1.map bt)]) (W := 0) (cells' := 8) (slots' := 80) 11 28 0 (rm_tos l Z a0 hw ba vb ([] ++ [107, 101, 121, 32, 39] ++ c1 ++ [39, 58, 32] ++ c2) n3 cz S1 hcz Hn3 (by simp; omega)) rfl rfl rfl (wd hw 108 rfl) (wd hw 109 rfl) (nf_self (wd hw 111 rfl)) (wd hw 111 rfl) (wd hw 110 rfl) (wd hw 112 rfl) (wd hw 41 rfl) (by decide) pd21 rfl rfl rfl rfl (by decide) (by decide) rfl rfl rfl (by decide) (by decide) (fun v L' hQ => ?_)
  obtain ⟨ra, rb, rfl, rfl⟩ := hQ
  show Wp K 8 80 [(ra, true, .inl kS, [.int 0, .ref rb]), (rb, true, .inr .byte, ([] ++ [107, 101, 121, 32, 39] ++ c1 ++ [39, 58, 32] ++ c2).map bt), (t2, true, .inl kS, [.int 0, .ref b2]), (b2, true, .inr .byte, c2.map bt), (t1, true, .inl kS, [.int 0, .ref b1]), (b1, true, .inr .byte, c1.map bt)] 28 [.val (.ref t1), .val (.ref t2)] [.ref ra]
  refine wp_drop C 4 (L' := [(ra, true, .inl kS, [.int 0, .ref rb]), (rb, true, .inr .byte, ([] ++ [107, 101, 121, 32, 39] ++ c1 ++ [39, 58, 32] ++ c2).map bt), (t2, true, .inl kS, [.int 0, .ref b2]), (b2, true, .inr .byte, c2.map bt), (b1, true, .inr .byte, c1.map bt)]) rfl ?_
  refine wp_drop C 4 (L' := [(ra, true, .inl kS, [.int 0, .ref rb]), (rb, true, .inr .byte, ([] ++ [107, 101, 121, 32, 39] ++ c1 ++ [39, 58, 32] ++ c2).map bt), (t2, true, .inl kS, [.int 0, .ref b2]), (b2, true, .inr .byte, c2.map bt)]) rfl ?_
  refine wp_drop C 2 (L' := [(ra, true, .inl kS, [.int 0, .ref rb]), (rb, true, .inr .byte, ([] ++ [107, 101, 121, 32, 39] ++ c1 ++ [39, 58, 32] ++ c2).map bt), (b2, true, .inr .byte, c2.map bt)]) rfl ?_
  refine wp_drop C 2 (L' := [(ra, true, .inl kS, [.int 0, .ref rb]), (rb, true, .inr .byte, ([] ++ [107, 101, 121, 32, 39] ++ c1 ++ [39, 58, 32] ++ c2).map bt)]) rfl ?_
  exact wp_retA C 12 rfl rfl rfl (by decide) (by decide) (⟨ra, rb, rfl, rfl⟩)
theorem pn32 : plainFor (⟨"com/example/remitter/remitter/ConfigException", "atKey", "(Ljava/lang/String;Ljava/lang/String;)Lcom/example/remitter/remitter/ConfigException;"⟩ : MethodName) = true := by first | (refine plainFor_of_name ?_; simp [plainName, overriddenIn]; done) | (refine plainFor_of_name ?_; decide +kernel) | decide +kernel
theorem pd22 : parseMethodDescriptor "(Ljava/lang/String;Ljava/lang/String;)Ljava/lang/String;" = some ⟨[(.object "java/lang/String"), (.object "java/lang/String")], (some (.object "java/lang/String"))⟩ := by decide +kernel
def B_rm_atk : Prog := [(0, .new 7, 3), (3, .dup, 1), (4, .aload_n 0, 1), (5, .aload_n 1, 1), (6, .invokestatic 9, 3), (9, .invokespecial 13, 3), (12, .areturn, 1)]
theorem B_rm_atk_ok : okB prog_1_method_2_code B_rm_atk = true := by decide +kernel
set_option maxRecDepth 65536 in
set_option maxHeartbeats 40000000 in
theorem rm_atk (l : Launch) (Z : State) (a0 : Array Value) (hw : ∀ d ∈ tables_1, d.before a0 Z = true) (t1 b1 t2 b2 : Addr) (c1 c2 : List Int32) (cz : Int32) (S1 : Sta Z Z.heap "java/lang/String" "COMPACT_STRINGS" "Z" (.int cz)) (hcz : cz ≠ 0) (k1 : c1.length = 2) (k2 : c2.length = 2) (hl : l.stackTraces = true) (ua sv : Addr) (SU : Sta Z Z.heap "java/lang/Throwable" "UNASSIGNED_STACK" "[Ljava/lang/StackTraceElement;" (.ref ua)) (SS : Sta Z Z.heap "java/lang/Throwable" "SUPPRESSED_SENTINEL" "Ljava/util/List;" (.ref sv)) : CtK l Z EL1 nw1 (⟨"com/example/remitter/remitter/ConfigException", "atKey", "(Ljava/lang/String;Ljava/lang/String;)Lcom/example/remitter/remitter/ConfigException;"⟩ : MethodName) prog_1_method_2_code 2 (some (.object "com/example/remitter/remitter/ConfigException")) [] ({ frames := 7, cells := 10, slots := 2838, locals := 106 } : Room) [.ref t1, .ref t2] [(t1, true, .inl kS, [.int 0, .ref b1]), (b1, true, .inr .byte, c1.map bt), (t2, true, .inl kS, [.int 0, .ref b2]), (b2, true, .inr .byte, c2.map bt)] (fun v L => ∃ ea ra rb : Addr, v = some (.ref ea) ∧ L = [(ea, true, .inl kEm, [.ref ra]), (ra, true, .inl kS, [.int 0, .ref rb]), (rb, true, .inr .byte, ([] ++ [107, 101, 121, 32, 39] ++ c1 ++ [39, 58, 32] ++ c2).map bt)]) := by
  refine ct_ofK pn32 (B := B_rm_atk) (ls := [.val (.ref t1), .val (.ref t2)]) B_rm_atk_ok (ew1 hw) (fun m => by first | (simp [entryFrame, mkF, argsToLocals, Value.category]; done) | rfl) (fun K C hKn => ?_)
  refine wp_new C (Kc := kE) (cells' := 1) (slots' := 6) 0 3 rfl rfl (wd hw 34 rfl) (wd hw 35 rfl) (wd hw 32 rfl) (kE_ok hw) kE_df rfl rfl (by decide) (by decide) (fun ea => ?_)
  refine wp_blk C 1 3 (pc' := 6) (ls' := [.val (.ref t1), .val (.ref t2)]) (st' := [.ref t2, .ref t1, .ref ea, .ref ea]) rfl ?_
  refine wp_front C 4 (L' := [(b2, true, .inr .byte, c2.map bt), (ea, true, .inl kE, [.null, .null, .null, .null, .null, .int 0]), (t1, true, .inl kS, [.int 0, .ref b1]), (b1, true, .inr .byte, c1.map bt), (t2, true, .inl kS, [.int 0, .ref b2])]) rfl ?_
  refine wp_front C 4 (L' := [(t2, true, .inl kS, [.int 0, .ref b2]), (b2, true, .inr .byte, c2.map bt), (ea, true, .inl kE, [.null, .null, .null, .null, .null, .int 0]), (t1, true, .inl kS, [.int 0, .ref b1]), (b1, true, .inr .byte, c1.map bt)]) rfl ?_
  refine wp_front C 4 (L' := [(b1, true, .inr .byte, c1.map bt), (t2, true, .inl kS, [.int 0, .ref b2]), (b2, true, .inr .byte, c2.map bt), (ea, true, .inl kE, [.null, .null, .null, .null, .null, .int 0]), (t1, true, .inl kS, [.int 0, .ref b1])]) rfl ?_
  refine wp_front C 4 (L' := [(t1, true, .inl kS, [.int 0, .ref b1]), (b1, true, .inr .byte, c1.map bt), (t2, true, .inl kS, [.int 0, .ref b2]), (b2, true, .inr .byte, c2.map bt), (ea, true, .inl kE, [.null, .null, .null, .null, .null, .int 0])]) rfl ?_
  refine wp_static C (al := [.ref t1, .ref t2]) (rest := [.ref ea, .ref ea]) (L1 := [(ea, true, .inl kE, [.null, .null, .null, .null, .null, .int 0])]) (W := 2) (cells' := 9) (slots' := 86) 4 9 (rm_nam l Z a0 hw t1 b1 t2 b2 c1 c2 cz S1 hcz k1 k2) rfl rfl (wd hw 36 rfl) (wd hw 37 rfl) (wd hw 38 rfl) (wd hw 32 rfl) (by decide) pd22 rfl rfl rfl rfl (by decide) (by decide) rfl rfl rfl (by decide) (by decide) (fun v L' hQ => ?_)
  obtain ⟨ra, rb, rfl, rfl⟩ := hQ
  show Wp K 9 86 [(ra, true, .inl kS, [.int 0, .ref rb]), (rb, true, .inr .byte, ([] ++ [107, 101, 121, 32, 39] ++ c1 ++ [39, 58, 32] ++ c2).map bt), (ea, true, .inl kE, [.null, .null, .null, .null, .null, .int 0])] 9 [.val (.ref t1), .val (.ref t2)] [.ref ra, .ref ea, .ref ea]
  refine wp_front C 2 (L' := [(ea, true, .inl kE, [.null, .null, .null, .null, .null, .int 0]), (ra, true, .inl kS, [.int 0, .ref rb]), (rb, true, .inr .byte, ([] ++ [107, 101, 121, 32, 39] ++ c1 ++ [39, 58, 32] ++ c2).map bt)]) rfl ?_
  refine wp_initK C hKn (al := [.ref ra]) (rest := [.ref ea]) (L1 := [(ra, true, .inl kS, [.int 0, .ref rb]), (rb, true, .inr .byte, ([] ++ [107, 101, 121, 32, 39] ++ c1 ++ [39, 58, 32] ++ c2).map bt)]) (W := 1) (cells' := 10) (slots' := 2838) 5 12 (rm_cei l Z a0 hw ea ra hl ua sv SU SS) rfl rfl (wd hw 153 rfl) (wd hw 154 rfl) (wd hw 155 rfl) (wd hw 32 rfl) rfl (by decide) pd10 rfl rfl rfl rfl (by decide) (by decide) rfl rfl rfl (by decide) (by decide) (fun v L' hQ => ?_)
  obtain ⟨rfl, rfl⟩ := hQ
  show Wp K 10 2838 [(ea, true, .inl kEm, [.ref ra]), (ra, true, .inl kS, [.int 0, .ref rb]), (rb, true, .inr .byte, ([] ++ [107, 101, 121, 32, 39] ++ c1 ++ [39, 58, 32] ++ c2).map bt)] 12 [.val (.ref t1), .val (.ref t2)] [.ref ea]
  exact wp_retA C 6 rfl rfl rfl (by decide) (by decide) (⟨ea, ra, rb, rfl, rfl⟩)
theorem pn33 : plainFor (⟨"java/lang/Throwable", "getMessage", "()Ljava/lang/String;"⟩ : MethodName) = true := by first | (refine plainFor_of_name ?_; simp [plainName, overriddenIn]; done) | (refine plainFor_of_name ?_; decide +kernel) | decide +kernel
def B_rm_msg : Prog := [(0, .aload_n 0, 1), (1, .getfield 31, 3), (4, .areturn, 1)]
theorem B_rm_msg_ok : okB jdk_78_method_6_code B_rm_msg = true := by decide +kernel
set_option maxRecDepth 65536 in
set_option maxHeartbeats 40000000 in
theorem rm_msg (l : Launch) (Z : State) (a0 : Array Value) (hw : ∀ d ∈ tables_1, d.before a0 Z = true) (ea ra : Addr) : Ct l Z EL1 nw1 (⟨"java/lang/Throwable", "getMessage", "()Ljava/lang/String;"⟩ : MethodName) jdk_78_method_6_code 1 (some (.object "java/lang/String")) [] ({ frames := 0, cells := 0, slots := 0, locals := 0 } : Room) [.ref ea] [(ea, true, .inl kEm, [.ref ra])] (fun v L => v = some (.ref ra) ∧ L = [(ea, true, .inl kEm, [.ref ra])]) := by
  refine ct_of pn33 (B := B_rm_msg) (ls := [.val (.ref ea)]) B_rm_msg_ok (ew1 hw) (fun m => by first | (simp [entryFrame, mkF, argsToLocals, Value.category]; done) | rfl) (fun K C => ?_)
  refine wp_blk C 0 1 (pc' := 1) (ls' := [.val (.ref ea)]) (st' := [.ref ea]) rfl ?_
  refine wp_get C 1 4 0 0 rfl rfl (wd hw 203 rfl) Via.refl rfl rfl rfl ?_
  exact wp_retA C 2 rfl rfl rfl (by decide) (by decide) (⟨rfl, rfl⟩)
theorem pn34 : plainFor x = true := by first | (refine plainFor_of_name ?_; simp [plainName, overriddenIn]; done) | (refine plainFor_of_name ?_; decide +kernel) | decide +kernel
theorem pd23 : parseMethodDescriptor "([C)V" = some ⟨[(.array .char)], none⟩ := by decide +kernel
theorem pd24 : parseMethodDescriptor "(Ljava/lang/String;Ljava/lang/String;)Lcom/example/remitter/remitter/ConfigException;" = some ⟨[(.object "java/lang/String"), (.object "java/lang/String")], (some (.object "com/example/remitter/remitter/ConfigException"))⟩ := by decide +kernel
theorem pd25 : parseMethodDescriptor "(Ljava/lang/Object;)Z" = some ⟨[(.object "java/lang/Object")], (some .boolean)⟩ := by decide +kernel
def B_rm_law : Prog := [(0, .iload_n 0, 1), (1, .sipush 255, 3), (4, .iand, 1), (5, .i2c, 1), (6, .istore 4, 2), (8, .iload_n 1, 1), (9, .sipush 255, 3), (12, .iand, 1), (13, .i2c, 1), (14, .istore 5, 2), (16, .iload_n 2, 1), (17, .sipush 255, 3), (20, .iand, 1), (21, .i2c, 1), (22, .istore 6, 2), (24, .iload_n 3, 1), (25, .sipush 255, 3), (28, .iand, 1), (29, .i2c, 1), (30, .istore 7, 2), (32, .new 7, 3), (35, .dup, 1), (36, .iconst 2, 1), (37, .newarray .char, 2), (39, .dup, 1), (40, .iconst 0, 1), (41, .iload 4, 2), (43, .castore, 1), (44, .dup, 1), (45, .iconst 1, 1), (46, .iload 5, 2), (48, .castore, 1), (49, .invokespecial 9, 3), (52, .astore 8, 2), (54, .new 7, 3), (57, .dup, 1), (58, .iconst 2, 1), (59, .newarray .char, 2), (61, .dup, 1), (62, .iconst 0, 1), (63, .iload 6, 2), (65, .castore, 1), (66, .dup, 1), (67, .iconst 1, 1), (68, .iload 7, 2), (70, .castore, 1), (71, .invokespecial 9, 3), (74, .astore 9, 2), (76, .bipush 12, 2), (78, .newarray .char, 2), (80, .dup, 1), (81, .iconst 0, 1), (82, .bipush 107, 2), (84, .castore, 1), (85, .dup, 1), (86, .iconst 1, 1), (87, .bipush 101, 2), (89, .castore, 1), (90, .dup, 1), (91, .iconst 2, 1), (92, .bipush 121, 2), (94, .castore, 1), (95, .dup, 1), (96, .iconst 3, 1), (97, .bipush 32, 2), (99, .castore, 1), (100, .dup, 1), (101, .iconst 4, 1), (102, .bipush 39, 2), (104, .castore, 1), (105, .dup, 1), (106, .iconst 5, 1), (107, .iload 4, 2), (109, .castore, 1), (110, .dup, 1), (111, .bipush 6, 2), (113, .iload 5, 2), (115, .castore, 1), (116, .dup, 1), (117, .bipush 7, 2), (119, .bipush 39, 2), (121, .castore, 1), (122, .dup, 1), (123, .bipush 8, 2), (125, .bipush 58, 2), (127, .castore, 1), (128, .dup, 1), (129, .bipush 9, 2), (131, .bipush 32, 2), (133, .castore, 1), (134, .dup, 1), (135, .bipush 10, 2), (137, .iload 6, 2), (139, .castore, 1), (140, .dup, 1), (141, .bipush 11, 2), (143, .iload 7, 2), (145, .castore, 1), (146, .astore 10, 2), (148, .new 7, 3), (151, .dup, 1), (152, .aload 10, 2), (154, .invokespecial 9, 3), (157, .astore 11, 2), (159, .aload 8, 2), (161, .aload 9, 2), (163, .invokestatic 12, 3), (166, .astore 12, 2), (168, .aload 12, 2), (170, .ifnonnull 5, 3), (175, .aload 12, 2), (177, .invokevirtual 18, 3), (180, .astore 13, 2), (182, .aload 13, 2), (184, .ifnull 17, 3), (187, .aload 13, 2), (189, .aload 11, 2), (191, .invokevirtual 22, 3), (194, .ifCond .eq 7, 3), (197, .iconst 1, 1), (198, .goto 4, 3), (202, .ireturn, 1)]
theorem B_rm_law_ok : okB code B_rm_law = true := by decide +kernel
set_option maxRecDepth 65536 in
set_option maxHeartbeats 40000000 in
theorem rm_law (l : Launch) (Z : State) (a0 : Array Value) (hw : ∀ d ∈ tables_1, d.before a0 Z = true) (a b d e : Int32) (cz : Int32) (S1 : Sta Z Z.heap "java/lang/String" "COMPACT_STRINGS" "Z" (.int cz)) (hcz : cz ≠ 0) (hl : l.stackTraces = true) (ua sv : Addr) (SU : Sta Z Z.heap "java/lang/Throwable" "UNASSIGNED_STACK" "[Ljava/lang/StackTraceElement;" (.ref ua)) (SS : Sta Z Z.heap "java/lang/Throwable" "SUPPRESSED_SENTINEL" "Ljava/util/List;" (.ref sv)) : CtK l Z EL1 nw1 x code maxLocals ret tables_1 room_1 [.int a, .int b, .int d, .int e] [] (fun v L => v = some (.int 1)) := by
  refine ct_ofK pn34 (B := B_rm_law) (ls := [.val (.int a), .val (.int b), .val (.int d), .val (.int e), .unset, .unset, .unset, .unset, .unset, .unset, .unset, .unset, .unset, .unset]) B_rm_law_ok (ew1 hw) (fun m => by first | (simp [entryFrame, mkF, argsToLocals, Value.category, maxLocals]; done) | rfl) (fun K C hKn => ?_)
  refine wp_blk C 0 5 (pc' := 8) (ls' := [.val (.int a), .val (.int b), .val (.int d), .val (.int e), .val (.int ((a &&& 255 : Int32).toUInt32.toUInt16.toUInt32.toInt32)), .unset, .unset, .unset, .unset, .unset, .unset, .unset, .unset, .unset]) (st' := []) rfl ?_
  obtain ⟨k0, hk0⟩ : ∃ nn0 : Int32, nn0 = (a &&& 255 : Int32).toUInt32.toUInt16.toUInt32.toInt32 := ⟨_, rfl⟩
  rw [← hk0]
  have Hk0 : 0 ≤ k0.toInt ∧ k0.toInt ≤ 255 := by rw [hk0, i2c_mask]; exact lat_and _
  refine wp_blk C 5 5 (pc' := 16) (ls' := [.val (.int a), .val (.int b), .val (.int d), .val (.int e), .val (.int k0), .val (.int ((b &&& 255 : Int32).toUInt32.toUInt16.toUInt32.toInt32)), .unset, .unset, .unset, .unset, .unset, .unset, .unset, .unset]) (st' := []) rfl ?_
  obtain ⟨k1, hk1⟩ : ∃ nn0 : Int32, nn0 = (b &&& 255 : Int32).toUInt32.toUInt16.toUInt32.toInt32 := ⟨_, rfl⟩
  rw [← hk1]
  have Hk1 : 0 ≤ k1.toInt ∧ k1.toInt ≤ 255 := by rw [hk1, i2c_mask]; exact lat_and _
  refine wp_blk C 10 5 (pc' := 24) (ls' := [.val (.int a), .val (.int b), .val (.int d), .val (.int e), .val (.int k0), .val (.int k1), .val (.int ((d &&& 255 : Int32).toUInt32.toUInt16.toUInt32.toInt32)), .unset, .unset, .unset, .unset, .unset, .unset, .unset]) (st' := []) rfl ?_
  obtain ⟨p0, hp0⟩ : ∃ nn0 : Int32, nn0 = (d &&& 255 : Int32).toUInt32.toUInt16.toUInt32.toInt32 := ⟨_, rfl⟩
  rw [← hp0]
  have Hp0 : 0 ≤ p0.toInt ∧ p0.toInt ≤ 255 := by rw [hp0, i2c_mask]; exact lat_and _
  refine wp_blk C 15 5 (pc' := 32) (ls' := [.val (.int a), .val (.int b), .val (.int d), .val (.int e), .val (.int k0), .val (.int k1), .val (.int p0), .val (.int ((e &&& 255 : Int32).toUInt32.toUInt16.toUInt32.toInt32)), .unset, .unset, .unset, .unset, .unset, .unset]) (st' := []) rfl ?_
  obtain ⟨p1, hp1⟩ : ∃ nn0 : Int32, nn0 = (e &&& 255 : Int32).toUInt32.toUInt16.toUInt32.toInt32 := ⟨_, rfl⟩
  rw [← hp1]
  have Hp1 : 0 ≤ p1.toInt ∧ p1.toInt ≤ 255 := by rw [hp1, i2c_mask]; exact lat_and _
  refine wp_new C (Kc := kS) (cells' := 1) (slots' := 4) 20 35 rfl rfl (wd hw 0 rfl) (wd hw 1 rfl) (wd hw 2 rfl) (kS_ok hw) kS_df rfl rfl (by decide) (by decide) (fun a1 => ?_)
  refine wp_blk C 21 2 (pc' := 37) (ls' := [.val (.int a), .val (.int b), .val (.int d), .val (.int e), .val (.int k0), .val (.int k1), .val (.int p0), .val (.int p1), .unset, .unset, .unset, .unset, .unset, .unset]) (st' := [.int 2, .ref a1, .ref a1]) rfl ?_
  refine wp_newA C (n := 2) (cap := 2) (cells' := 2) (slots' := 6) (vs := List.replicate 2 (.int 0)) 23 39 rfl rfl (wd hw 3 rfl) rfl (by decide) (by decide) rfl rfl (by decide) (by decide) rfl (fun ca1 => ?_)
  refine wp_blk C 24 3 (pc' := 43) (ls' := [.val (.int a), .val (.int b), .val (.int d), .val (.int e), .val (.int k0), .val (.int k1), .val (.int p0), .val (.int p1), .unset, .unset, .unset, .unset, .unset, .unset]) (st' := [.int k0, .int 0, .ref ca1, .ref ca1, .ref a1, .ref a1]) rfl ?_
  refine wp_stoC C (n := 0) (vs' := [k0, 0].map Value.int) (L' := [(ca1, true, .inr .char, [k0, 0].map Value.int), (a1, true, .inl kS, [.int 0, .null])]) 27 44 0 rfl rfl rfl rfl (by simp) (by rw [nar_chr (k := k0) ⟨Hk0.1, by omega⟩]; rfl) rfl ?_
  refine wp_blk C 28 3 (pc' := 48) (ls' := [.val (.int a), .val (.int b), .val (.int d), .val (.int e), .val (.int k0), .val (.int k1), .val (.int p0), .val (.int p1), .unset, .unset, .unset, .unset, .unset, .unset]) (st' := [.int k1, .int 1, .ref ca1, .ref ca1, .ref a1, .ref a1]) rfl ?_
  refine wp_stoC C (n := 1) (vs' := [k0, k1].map Value.int) (L' := [(ca1, true, .inr .char, [k0, k1].map Value.int), (a1, true, .inl kS, [.int 0, .null])]) 31 49 0 rfl rfl rfl rfl (by simp) (by rw [nar_chr (k := k1) ⟨Hk1.1, by omega⟩]; rfl) rfl ?_
  refine wp_front C 1 (L' := [(a1, true, .inl kS, [.int 0, .null]), (ca1, true, .inr .char, [k0, k1].map Value.int)]) rfl ?_
  refine wp_init C (al := [.ref ca1]) (rest := [.ref a1]) (L1 := []) (W := 1) (cells' := 3) (slots' := 22) 32 52 (rm_str l Z a0 hw a1 ca1 [k0, k1] cz S1 hcz (by intro c hc; simp only [List.mem_cons, List.not_mem_nil, or_false] at hc; rcases hc with rfl | rfl <;> first | assumption | decide) (by simp) (by simp)) rfl rfl (wd hw 4 rfl) (wd hw 5 rfl) (wd hw 6 rfl) (wd hw 2 rfl) rfl (by decide) pd23 rfl rfl rfl rfl (by decide) (by decide) rfl rfl rfl (by decide) (by decide) (fun v L' hQ => ?_)
  obtain ⟨rfl, b1, rfl⟩ := hQ
  show Wp K 3 22 [(a1, true, .inl kS, [.int 0, .ref b1]), (b1, true, .inr .byte, ([k0, k1]).map bt), (ca1, true, .inr .char, ([k0, k1]).map Value.int)] 52 [.val (.int a), .val (.int b), .val (.int d), .val (.int e), .val (.int k0), .val (.int k1), .val (.int p0), .val (.int p1), .unset, .unset, .unset, .unset, .unset, .unset] [.ref a1]
  refine wp_drop C 2 (L' := [(a1, true, .inl kS, [.int 0, .ref b1]), (b1, true, .inr .byte, ([k0, k1]).map bt)]) rfl ?_
  refine wp_blk C 33 1 (pc' := 54) (ls' := [.val (.int a), .val (.int b), .val (.int d), .val (.int e), .val (.int k0), .val (.int k1), .val (.int p0), .val (.int p1), .val (.ref a1), .unset, .unset, .unset, .unset, .unset]) (st' := []) rfl ?_
  refine wp_new C (Kc := kS) (cells' := 4) (slots' := 26) 34 57 rfl rfl (wd hw 0 rfl) (wd hw 1 rfl) (wd hw 2 rfl) (kS_ok hw) kS_df rfl rfl (by decide) (by decide) (fun a2 => ?_)
  refine wp_blk C 35 2 (pc' := 59) (ls' := [.val (.int a), .val (.int b), .val (.int d), .val (.int e), .val (.int k0), .val (.int k1), .val (.int p0), .val (.int p1), .val (.ref a1), .unset, .unset, .unset, .unset, .unset]) (st' := [.int 2, .ref a2, .ref a2]) rfl ?_
  refine wp_newA C (n := 2) (cap := 2) (cells' := 5) (slots' := 28) (vs := List.replicate 2 (.int 0)) 37 61 rfl rfl (wd hw 3 rfl) rfl (by decide) (by decide) rfl rfl (by decide) (by decide) rfl (fun ca2 => ?_)
  refine wp_blk C 38 3 (pc' := 65) (ls' := [.val (.int a), .val (.int b), .val (.int d), .val (.int e), .val (.int k0), .val (.int k1), .val (.int p0), .val (.int p1), .val (.ref a1), .unset, .unset, .unset, .unset, .unset]) (st' := [.int p0, .int 0, .ref ca2, .ref ca2, .ref a2, .ref a2]) rfl ?_
  refine wp_stoC C (n := 0) (vs' := [p0, 0].map Value.int) (L' := [(ca2, true, .inr .char, [p0, 0].map Value.int), (a2, true, .inl kS, [.int 0, .null]), (a1, true, .inl kS, [.int 0, .ref b1]), (b1, true, .inr .byte, ([k0, k1]).map bt)]) 41 66 0 rfl rfl rfl rfl (by simp) (by rw [nar_chr (k := p0) ⟨Hp0.1, by omega⟩]; rfl) rfl ?_
  refine wp_blk C 42 3 (pc' := 70) (ls' := [.val (.int a), .val (.int b), .val (.int d), .val (.int e), .val (.int k0), .val (.int k1), .val (.int p0), .val (.int p1), .val (.ref a1), .unset, .unset, .unset, .unset, .unset]) (st' := [.int p1, .int 1, .ref ca2, .ref ca2, .ref a2, .ref a2]) rfl ?_
  refine wp_stoC C (n := 1) (vs' := [p0, p1].map Value.int) (L' := [(ca2, true, .inr .char, [p0, p1].map Value.int), (a2, true, .inl kS, [.int 0, .null]), (a1, true, .inl kS, [.int 0, .ref b1]), (b1, true, .inr .byte, ([k0, k1]).map bt)]) 45 71 0 rfl rfl rfl rfl (by simp) (by rw [nar_chr (k := p1) ⟨Hp1.1, by omega⟩]; rfl) rfl ?_
  refine wp_front C 1 (L' := [(a2, true, .inl kS, [.int 0, .null]), (ca2, true, .inr .char, [p0, p1].map Value.int), (a1, true, .inl kS, [.int 0, .ref b1]), (b1, true, .inr .byte, ([k0, k1]).map bt)]) rfl ?_
  refine wp_init C (al := [.ref ca2]) (rest := [.ref a2]) (L1 := [(a1, true, .inl kS, [.int 0, .ref b1]), (b1, true, .inr .byte, ([k0, k1]).map bt)]) (W := 1) (cells' := 6) (slots' := 44) 46 74 (rm_str l Z a0 hw a2 ca2 [p0, p1] cz S1 hcz (by intro c hc; simp only [List.mem_cons, List.not_mem_nil, or_false] at hc; rcases hc with rfl | rfl <;> first | assumption | decide) (by simp) (by simp)) rfl rfl (wd hw 4 rfl) (wd hw 5 rfl) (wd hw 6 rfl) (wd hw 2 rfl) rfl (by decide) pd23 rfl rfl rfl rfl (by decide) (by decide) rfl rfl rfl (by decide) (by decide) (fun v L' hQ => ?_)
  obtain ⟨rfl, b2, rfl⟩ := hQ
  show Wp K 6 44 [(a2, true, .inl kS, [.int 0, .ref b2]), (b2, true, .inr .byte, ([p0, p1]).map bt), (ca2, true, .inr .char, ([p0, p1]).map Value.int), (a1, true, .inl kS, [.int 0, .ref b1]), (b1, true, .inr .byte, ([k0, k1]).map bt)] 74 [.val (.int a), .val (.int b), .val (.int d), .val (.int e), .val (.int k0), .val (.int k1), .val (.int p0), .val (.int p1), .val (.ref a1), .unset, .unset, .unset, .unset, .unset] [.ref a2]
  refine wp_drop C 2 (L' := [(a2, true, .inl kS, [.int 0, .ref b2]), (b2, true, .inr .byte, ([p0, p1]).map bt), (a1, true, .inl kS, [.int 0, .ref b1]), (b1, true, .inr .byte, ([k0, k1]).map bt)]) rfl ?_
  refine wp_blk C 47 2 (pc' := 78) (ls' := [.val (.int a), .val (.int b), .val (.int d), .val (.int e), .val (.int k0), .val (.int k1), .val (.int p0), .val (.int p1), .val (.ref a1), .val (.ref a2), .unset, .unset, .unset, .unset]) (st' := [.int 12]) rfl ?_
  refine wp_newA C (n := 12) (cap := 12) (cells' := 7) (slots' := 56) (vs := List.replicate 12 (.int 0)) 49 80 rfl rfl (wd hw 3 rfl) rfl (by decide) (by decide) rfl rfl (by decide) (by decide) rfl (fun ca3 => ?_)
  refine wp_blk C 50 3 (pc' := 84) (ls' := [.val (.int a), .val (.int b), .val (.int d), .val (.int e), .val (.int k0), .val (.int k1), .val (.int p0), .val (.int p1), .val (.ref a1), .val (.ref a2), .unset, .unset, .unset, .unset]) (st' := [.int 107, .int 0, .ref ca3, .ref ca3]) rfl ?_
  refine wp_stoC C (n := 0) (vs' := [107, 0, 0, 0, 0, 0, 0, 0, 0, 0, 0, 0].map Value.int) (L' := [(ca3, true, .inr .char, [107, 0, 0, 0, 0, 0, 0, 0, 0, 0, 0, 0].map Value.int), (a2, true, .inl kS, [.int 0, .ref b2]), (b2, true, .inr .byte, ([p0, p1]).map bt), (a1, true, .inl kS, [.int 0, .ref b1]), (b1, true, .inr .byte, ([k0, k1]).map bt)]) 53 85 0 rfl rfl rfl rfl (by simp) (by rw [nar_chr (k := 107) (by decide)]; rfl) rfl ?_
  refine wp_blk C 54 3 (pc' := 89) (ls' := [.val (.int a), .val (.int b), .val (.int d), .val (.int e), .val (.int k0), .val (.int k1), .val (.int p0), .val (.int p1), .val (.ref a1), .val (.ref a2), .unset, .unset, .unset, .unset]) (st' := [.int 101, .int 1, .ref ca3, .ref ca3]) rfl ?_
  refine wp_stoC C (n := 1) (vs' := [107, 101, 0, 0, 0, 0, 0, 0, 0, 0, 0, 0].map Value.int) (L' := [(ca3, true, .inr .char, [107, 101, 0, 0, 0, 0, 0, 0, 0, 0, 0, 0].map Value.int), (a2, true, .inl kS, [.int 0, .ref b2]), (b2, true, .inr .byte, ([p0, p1]).map bt), (a1, true, .inl kS, [.int 0, .ref b1]), (b1, true, .inr .byte, ([k0, k1]).map bt)]) 57 90 0 rfl rfl rfl rfl (by simp) (by rw [nar_chr (k := 101) (by decide)]; rfl) rfl ?_
  refine wp_blk C 58 3 (pc' := 94) (ls' := [.val (.int a), .val (.int b), .val (.int d), .val (.int e), .val (.int k0), .val (.int k1), .val (.int p0), .val (.int p1), .val (.ref a1), .val (.ref a2), .unset, .unset, .unset, .unset]) (st' := [.int 121, .int 2, .ref ca3, .ref ca3]) rfl ?_
  refine wp_stoC C (n := 2) (vs' := [107, 101, 121, 0, 0, 0, 0, 0, 0, 0, 0, 0].map Value.int) (L' := [(ca3, true, .inr .char, [107, 101, 121, 0, 0, 0, 0, 0, 0, 0, 0, 0].map Value.int), (a2, true, .inl kS, [.int 0, .ref b2]), (b2, true, .inr .byte, ([p0, p1]).map bt), (a1, true, .inl kS, [.int 0, .ref b1]), (b1, true, .inr .byte, ([k0, k1]).map bt)]) 61 95 0 rfl rfl rfl rfl (by simp) (by rw [nar_chr (k := 121) (by decide)]; rfl) rfl ?_
  refine wp_blk C 62 3 (pc' := 99) (ls' := [.val (.int a), .val (.int b), .val (.int d), .val (.int e), .val (.int k0), .val (.int k1), .val (.int p0), .val (.int p1), .val (.ref a1), .val (.ref a2), .unset, .unset, .unset, .unset]) (st' := [.int 32, .int 3, .ref ca3, .ref ca3]) rfl ?_
  refine wp_stoC C (n := 3) (vs' := [107, 101, 121, 32, 0, 0, 0, 0, 0, 0, 0, 0].map Value.int) (L' := [(ca3, true, .inr .char, [107, 101, 121, 32, 0, 0, 0, 0, 0, 0, 0, 0].map Value.int), (a2, true, .inl kS, [.int 0, .ref b2]), (b2, true, .inr .byte, ([p0, p1]).map bt), (a1, true, .inl kS, [.int 0, .ref b1]), (b1, true, .inr .byte, ([k0, k1]).map bt)]) 65 100 0 rfl rfl rfl rfl (by simp) (by rw [nar_chr (k := 32) (by decide)]; rfl) rfl ?_
  refine wp_blk C 66 3 (pc' := 104) (ls' := [.val (.int a), .val (.int b), .val (.int d), .val (.int e), .val (.int k0), .val (.int k1), .val (.int p0), .val (.int p1), .val (.ref a1), .val (.ref a2), .unset, .unset, .unset, .unset]) (st' := [.int 39, .int 4, .ref ca3, .ref ca3]) rfl ?_
  refine wp_stoC C (n := 4) (vs' := [107, 101, 121, 32, 39, 0, 0, 0, 0, 0, 0, 0].map Value.int) (L' := [(ca3, true, .inr .char, [107, 101, 121, 32, 39, 0, 0, 0, 0, 0, 0, 0].map Value.int), (a2, true, .inl kS, [.int 0, .ref b2]), (b2, true, .inr .byte, ([p0, p1]).map bt), (a1, true, .inl kS, [.int 0, .ref b1]), (b1, true, .inr .byte, ([k0, k1]).map bt)]) 69 105 0 rfl rfl rfl rfl (by simp) (by rw [nar_chr (k := 39) (by decide)]; rfl) rfl ?_
  refine wp_blk C 70 3 (pc' := 109) (ls' := [.val (.int a), .val (.int b), .val (.int d), .val (.int e), .val (.int k0), .val (.int k1), .val (.int p0), .val (.int p1), .val (.ref a1), .val (.ref a2), .unset, .unset, .unset, .unset]) (st' := [.int k0, .int 5, .ref ca3, .ref ca3]) rfl ?_
  refine wp_stoC C (n := 5) (vs' := [107, 101, 121, 32, 39, k0, 0, 0, 0, 0, 0, 0].map Value.int) (L' := [(ca3, true, .inr .char, [107, 101, 121, 32, 39, k0, 0, 0, 0, 0, 0, 0].map Value.int), (a2, true, .inl kS, [.int 0, .ref b2]), (b2, true, .inr .byte, ([p0, p1]).map bt), (a1, true, .inl kS, [.int 0, .ref b1]), (b1, true, .inr .byte, ([k0, k1]).map bt)]) 73 110 0 rfl rfl rfl rfl (by simp) (by rw [nar_chr (k := k0) ⟨Hk0.1, by omega⟩]; rfl) rfl ?_
  refine wp_blk C 74 3 (pc' := 115) (ls' := [.val (.int a), .val (.int b), .val (.int d), .val (.int e), .val (.int k0), .val (.int k1), .val (.int p0), .val (.int p1), .val (.ref a1), .val (.ref a2), .unset, .unset, .unset, .unset]) (st' := [.int k1, .int 6, .ref ca3, .ref ca3]) rfl ?_
  refine wp_stoC C (n := 6) (vs' := [107, 101, 121, 32, 39, k0, k1, 0, 0, 0, 0, 0].map Value.int) (L' := [(ca3, true, .inr .char, [107, 101, 121, 32, 39, k0, k1, 0, 0, 0, 0, 0].map Value.int), (a2, true, .inl kS, [.int 0, .ref b2]), (b2, true, .inr .byte, ([p0, p1]).map bt), (a1, true, .inl kS, [.int 0, .ref b1]), (b1, true, .inr .byte, ([k0, k1]).map bt)]) 77 116 0 rfl rfl rfl rfl (by simp) (by rw [nar_chr (k := k1) ⟨Hk1.1, by omega⟩]; rfl) rfl ?_
  refine wp_blk C 78 3 (pc' := 121) (ls' := [.val (.int a), .val (.int b), .val (.int d), .val (.int e), .val (.int k0), .val (.int k1), .val (.int p0), .val (.int p1), .val (.ref a1), .val (.ref a2), .unset, .unset, .unset, .unset]) (st' := [.int 39, .int 7, .ref ca3, .ref ca3]) rfl ?_
  refine wp_stoC C (n := 7) (vs' := [107, 101, 121, 32, 39, k0, k1, 39, 0, 0, 0, 0].map Value.int) (L' := [(ca3, true, .inr .char, [107, 101, 121, 32, 39, k0, k1, 39, 0, 0, 0, 0].map Value.int), (a2, true, .inl kS, [.int 0, .ref b2]), (b2, true, .inr .byte, ([p0, p1]).map bt), (a1, true, .inl kS, [.int 0, .ref b1]), (b1, true, .inr .byte, ([k0, k1]).map bt)]) 81 122 0 rfl rfl rfl rfl (by simp) (by rw [nar_chr (k := 39) (by decide)]; rfl) rfl ?_
  refine wp_blk C 82 3 (pc' := 127) (ls' := [.val (.int a), .val (.int b), .val (.int d), .val (.int e), .val (.int k0), .val (.int k1), .val (.int p0), .val (.int p1), .val (.ref a1), .val (.ref a2), .unset, .unset, .unset, .unset]) (st' := [.int 58, .int 8, .ref ca3, .ref ca3]) rfl ?_
  refine wp_stoC C (n := 8) (vs' := [107, 101, 121, 32, 39, k0, k1, 39, 58, 0, 0, 0].map Value.int) (L' := [(ca3, true, .inr .char, [107, 101, 121, 32, 39, k0, k1, 39, 58, 0, 0, 0].map Value.int), (a2, true, .inl kS, [.int 0, .ref b2]), (b2, true, .inr .byte, ([p0, p1]).map bt), (a1, true, .inl kS, [.int 0, .ref b1]), (b1, true, .inr .byte, ([k0, k1]).map bt)]) 85 128 0 rfl rfl rfl rfl (by simp) (by rw [nar_chr (k := 58) (by decide)]; rfl) rfl ?_
  refine wp_blk C 86 3 (pc' := 133) (ls' := [.val (.int a), .val (.int b), .val (.int d), .val (.int e), .val (.int k0), .val (.int k1), .val (.int p0), .val (.int p1), .val (.ref a1), .val (.ref a2), .unset, .unset, .unset, .unset]) (st' := [.int 32, .int 9, .ref ca3, .ref ca3]) rfl ?_
  refine wp_stoC C (n := 9) (vs' := [107, 101, 121, 32, 39, k0, k1, 39, 58, 32, 0, 0].map Value.int) (L' := [(ca3, true, .inr .char, [107, 101, 121, 32, 39, k0, k1, 39, 58, 32, 0, 0].map Value.int), (a2, true, .inl kS, [.int 0, .ref b2]), (b2, true, .inr .byte, ([p0, p1]).map bt), (a1, true, .inl kS, [.int 0, .ref b1]), (b1, true, .inr .byte, ([k0, k1]).map bt)]) 89 134 0 rfl rfl rfl rfl (by simp) (by rw [nar_chr (k := 32) (by decide)]; rfl) rfl ?_
  refine wp_blk C 90 3 (pc' := 139) (ls' := [.val (.int a), .val (.int b), .val (.int d), .val (.int e), .val (.int k0), .val (.int k1), .val (.int p0), .val (.int p1), .val (.ref a1), .val (.ref a2), .unset, .unset, .unset, .unset]) (st' := [.int p0, .int 10, .ref ca3, .ref ca3]) rfl ?_
  refine wp_stoC C (n := 10) (vs' := [107, 101, 121, 32, 39, k0, k1, 39, 58, 32, p0, 0].map Value.int) (L' := [(ca3, true, .inr .char, [107, 101, 121, 32, 39, k0, k1, 39, 58, 32, p0, 0].map Value.int), (a2, true, .inl kS, [.int 0, .ref b2]), (b2, true, .inr .byte, ([p0, p1]).map bt), (a1, true, .inl kS, [.int 0, .ref b1]), (b1, true, .inr .byte, ([k0, k1]).map bt)]) 93 140 0 rfl rfl rfl rfl (by simp) (by rw [nar_chr (k := p0) ⟨Hp0.1, by omega⟩]; rfl) rfl ?_
  refine wp_blk C 94 3 (pc' := 145) (ls' := [.val (.int a), .val (.int b), .val (.int d), .val (.int e), .val (.int k0), .val (.int k1), .val (.int p0), .val (.int p1), .val (.ref a1), .val (.ref a2), .unset, .unset, .unset, .unset]) (st' := [.int p1, .int 11, .ref ca3, .ref ca3]) rfl ?_
  refine wp_stoC C (n := 11) (vs' := [107, 101, 121, 32, 39, k0, k1, 39, 58, 32, p0, p1].map Value.int) (L' := [(ca3, true, .inr .char, [107, 101, 121, 32, 39, k0, k1, 39, 58, 32, p0, p1].map Value.int), (a2, true, .inl kS, [.int 0, .ref b2]), (b2, true, .inr .byte, ([p0, p1]).map bt), (a1, true, .inl kS, [.int 0, .ref b1]), (b1, true, .inr .byte, ([k0, k1]).map bt)]) 97 146 0 rfl rfl rfl rfl (by simp) (by rw [nar_chr (k := p1) ⟨Hp1.1, by omega⟩]; rfl) rfl ?_
  refine wp_blk C 98 1 (pc' := 148) (ls' := [.val (.int a), .val (.int b), .val (.int d), .val (.int e), .val (.int k0), .val (.int k1), .val (.int p0), .val (.int p1), .val (.ref a1), .val (.ref a2), .val (.ref ca3), .unset, .unset, .unset]) (st' := []) rfl ?_
  refine wp_new C (Kc := kS) (cells' := 8) (slots' := 60) 99 151 rfl rfl (wd hw 0 rfl) (wd hw 1 rfl) (wd hw 2 rfl) (kS_ok hw) kS_df rfl rfl (by decide) (by decide) (fun a3 => ?_)
  refine wp_blk C 100 2 (pc' := 154) (ls' := [.val (.int a), .val (.int b), .val (.int d), .val (.int e), .val (.int k0), .val (.int k1), .val (.int p0), .val (.int p1), .val (.ref a1), .val (.ref a2), .val (.ref ca3), .unset, .unset, .unset]) (st' := [.ref ca3, .ref a3, .ref a3]) rfl ?_
  refine wp_init C (al := [.ref ca3]) (rest := [.ref a3]) (L1 := [(a2, true, .inl kS, [.int 0, .ref b2]), (b2, true, .inr .byte, ([p0, p1]).map bt), (a1, true, .inl kS, [.int 0, .ref b1]), (b1, true, .inr .byte, ([k0, k1]).map bt)]) (W := 1) (cells' := 9) (slots' := 76) 102 157 (rm_str l Z a0 hw a3 ca3 [107, 101, 121, 32, 39, k0, k1, 39, 58, 32, p0, p1] cz S1 hcz (by intro c hc; simp only [List.mem_cons, List.not_mem_nil, or_false] at hc; rcases hc with rfl | rfl | rfl | rfl | rfl | rfl | rfl | rfl | rfl | rfl | rfl | rfl <;> first | assumption | decide) (by simp) (by simp)) rfl rfl (wd hw 4 rfl) (wd hw 5 rfl) (wd hw 6 rfl) (wd hw 2 rfl) rfl (by decide) pd23 rfl rfl rfl rfl (by decide) (by decide) rfl rfl rfl (by decide) (by decide) (fun v L' hQ => ?_)
  obtain ⟨rfl, b3, rfl⟩ := hQ
  show Wp K 9 76 [(a3, true, .inl kS, [.int 0, .ref b3]), (b3, true, .inr .byte, ([107, 101, 121, 32, 39, k0, k1, 39, 58, 32, p0, p1]).map bt), (ca3, true, .inr .char, ([107, 101, 121, 32, 39, k0, k1, 39, 58, 32, p0, p1]).map Value.int), (a2, true, .inl kS, [.int 0, .ref b2]), (b2, true, .inr .byte, ([p0, p1]).map bt), (a1, true, .inl kS, [.int 0, .ref b1]), (b1, true, .inr .byte, ([k0, k1]).map bt)] 157 [.val (.int a), .val (.int b), .val (.int d), .val (.int e), .val (.int k0), .val (.int k1), .val (.int p0), .val (.int p1), .val (.ref a1), .val (.ref a2), .val (.ref ca3), .unset, .unset, .unset] [.ref a3]
  refine wp_drop C 2 (L' := [(a3, true, .inl kS, [.int 0, .ref b3]), (b3, true, .inr .byte, ([107, 101, 121, 32, 39, k0, k1, 39, 58, 32, p0, p1]).map bt), (a2, true, .inl kS, [.int 0, .ref b2]), (b2, true, .inr .byte, ([p0, p1]).map bt), (a1, true, .inl kS, [.int 0, .ref b1]), (b1, true, .inr .byte, ([k0, k1]).map bt)]) rfl ?_
  refine wp_blk C 103 3 (pc' := 163) (ls' := [.val (.int a), .val (.int b), .val (.int d), .val (.int e), .val (.int k0), .val (.int k1), .val (.int p0), .val (.int p1), .val (.ref a1), .val (.ref a2), .val (.ref ca3), .val (.ref a3), .unset, .unset]) (st' := [.ref a2, .ref a1]) rfl ?_
  refine wp_front C 3 (L' := [(b2, true, .inr .byte, ([p0, p1]).map bt), (a3, true, .inl kS, [.int 0, .ref b3]), (b3, true, .inr .byte, ([107, 101, 121, 32, 39, k0, k1, 39, 58, 32, p0, p1]).map bt), (a2, true, .inl kS, [.int 0, .ref b2]), (a1, true, .inl kS, [.int 0, .ref b1]), (b1, true, .inr .byte, ([k0, k1]).map bt)]) rfl ?_
  refine wp_front C 3 (L' := [(a2, true, .inl kS, [.int 0, .ref b2]), (b2, true, .inr .byte, ([p0, p1]).map bt), (a3, true, .inl kS, [.int 0, .ref b3]), (b3, true, .inr .byte, ([107, 101, 121, 32, 39, k0, k1, 39, 58, 32, p0, p1]).map bt), (a1, true, .inl kS, [.int 0, .ref b1]), (b1, true, .inr .byte, ([k0, k1]).map bt)]) rfl ?_
  refine wp_front C 5 (L' := [(b1, true, .inr .byte, ([k0, k1]).map bt), (a2, true, .inl kS, [.int 0, .ref b2]), (b2, true, .inr .byte, ([p0, p1]).map bt), (a3, true, .inl kS, [.int 0, .ref b3]), (b3, true, .inr .byte, ([107, 101, 121, 32, 39, k0, k1, 39, 58, 32, p0, p1]).map bt), (a1, true, .inl kS, [.int 0, .ref b1])]) rfl ?_
  refine wp_front C 5 (L' := [(a1, true, .inl kS, [.int 0, .ref b1]), (b1, true, .inr .byte, ([k0, k1]).map bt), (a2, true, .inl kS, [.int 0, .ref b2]), (b2, true, .inr .byte, ([p0, p1]).map bt), (a3, true, .inl kS, [.int 0, .ref b3]), (b3, true, .inr .byte, ([107, 101, 121, 32, 39, k0, k1, 39, 58, 32, p0, p1]).map bt)]) rfl ?_
  refine wp_staticK C hKn (al := [.ref a1, .ref a2]) (rest := []) (L1 := [(a3, true, .inl kS, [.int 0, .ref b3]), (b3, true, .inr .byte, ([107, 101, 121, 32, 39, k0, k1, 39, 58, 32, p0, p1]).map bt)]) (W := 0) (cells' := 19) (slots' := 2914) 106 166 (rm_atk l Z a0 hw a1 b1 a2 b2 [k0, k1] [p0, p1] cz S1 hcz rfl rfl hl ua sv SU SS) rfl rfl (wd hw 30 rfl) (wd hw 31 rfl) (wd hw 33 rfl) (wd hw 32 rfl) (by decide) pd24 rfl rfl rfl rfl (by decide) (by decide) rfl rfl rfl (by decide) (by decide) (fun v L' hQ => ?_)
  obtain ⟨ea, ra, rb, rfl, rfl⟩ := hQ
  show Wp K 19 2914 [(ea, true, .inl kEm, [.ref ra]), (ra, true, .inl kS, [.int 0, .ref rb]), (rb, true, .inr .byte, ([] ++ [107, 101, 121, 32, 39] ++ [k0, k1] ++ [39, 58, 32] ++ [p0, p1]).map bt), (a3, true, .inl kS, [.int 0, .ref b3]), (b3, true, .inr .byte, ([107, 101, 121, 32, 39, k0, k1, 39, 58, 32, p0, p1]).map bt)] 166 [.val (.int a), .val (.int b), .val (.int d), .val (.int e), .val (.int k0), .val (.int k1), .val (.int p0), .val (.int p1), .val (.ref a1), .val (.ref a2), .val (.ref ca3), .val (.ref a3), .unset, .unset] [.ref ea]
  refine wp_blk C 107 2 (pc' := 170) (ls' := [.val (.int a), .val (.int b), .val (.int d), .val (.int e), .val (.int k0), .val (.int k1), .val (.int p0), .val (.int p1), .val (.ref a1), .val (.ref a2), .val (.ref ca3), .val (.ref a3), .val (.ref ea), .unset]) (st' := [.ref ea]) rfl ?_
  refine wp_nonnullY C 109 175 rfl rfl (by decide) ?_
  refine wp_blk C 110 1 (pc' := 177) (ls' := [.val (.int a), .val (.int b), .val (.int d), .val (.int e), .val (.int k0), .val (.int k1), .val (.int p0), .val (.int p1), .val (.ref a1), .val (.ref a2), .val (.ref ca3), .val (.ref a3), .val (.ref ea), .unset]) (st' := [.ref ea]) rfl ?_
  refine wp_virtualUp C (owner := "java/lang/Throwable") (al := []) (rest := []) (L1 := [(ra, true, .inl kS, [.int 0, .ref rb]), (rb, true, .inr .byte, ([] ++ [107, 101, 121, 32, 39] ++ [k0, k1] ++ [39, 58, 32] ++ [p0, p1]).map bt), (a3, true, .inl kS, [.int 0, .ref b3]), (b3, true, .inr .byte, ([107, 101, 121, 32, 39, k0, k1, 39, 58, 32, p0, p1]).map bt)]) (W := 0) (cells' := 19) (slots' := 2914) 111 180 0 (rm_msg l Z a0 hw ea ra) rfl rfl rfl (wd hw 204 rfl) (wd hw 205 rfl) (wd hw 206 rfl) (by decide) (wd hw 208 rfl) (wd hw 207 rfl) (wd hw 209 rfl) (wd hw 165 rfl) pd21 rfl rfl rfl rfl (by decide) (by decide) rfl rfl rfl (by decide) (by decide) (fun v L' hQ => ?_)
  obtain ⟨rfl, rfl⟩ := hQ
  show Wp K 19 2914 [(ea, true, .inl kEm, [.ref ra]), (ra, true, .inl kS, [.int 0, .ref rb]), (rb, true, .inr .byte, ([] ++ [107, 101, 121, 32, 39] ++ [k0, k1] ++ [39, 58, 32] ++ [p0, p1]).map bt), (a3, true, .inl kS, [.int 0, .ref b3]), (b3, true, .inr .byte, ([107, 101, 121, 32, 39, k0, k1, 39, 58, 32, p0, p1]).map bt)] 180 [.val (.int a), .val (.int b), .val (.int d), .val (.int e), .val (.int k0), .val (.int k1), .val (.int p0), .val (.int p1), .val (.ref a1), .val (.ref a2), .val (.ref ca3), .val (.ref a3), .val (.ref ea), .unset] [.ref ra]
  refine wp_blk C 112 2 (pc' := 184) (ls' := [.val (.int a), .val (.int b), .val (.int d), .val (.int e), .val (.int k0), .val (.int k1), .val (.int p0), .val (.int p1), .val (.ref a1), .val (.ref a2), .val (.ref ca3), .val (.ref a3), .val (.ref ea), .val (.ref ra)]) (st' := [.ref ra]) rfl ?_
  refine wp_nullN C 114 187 rfl rfl ?_
  refine wp_blk C 115 2 (pc' := 191) (ls' := [.val (.int a), .val (.int b), .val (.int d), .val (.int e), .val (.int k0), .val (.int k1), .val (.int p0), .val (.int p1), .val (.ref a1), .val (.ref a2), .val (.ref ca3), .val (.ref a3), .val (.ref ea), .val (.ref ra)]) (st' := [.ref a3, .ref ra]) rfl ?_
  refine wp_front C 4 (L' := [(b3, true, .inr .byte, ([107, 101, 121, 32, 39, k0, k1, 39, 58, 32, p0, p1]).map bt), (ea, true, .inl kEm, [.ref ra]), (ra, true, .inl kS, [.int 0, .ref rb]), (rb, true, .inr .byte, ([] ++ [107, 101, 121, 32, 39] ++ [k0, k1] ++ [39, 58, 32] ++ [p0, p1]).map bt), (a3, true, .inl kS, [.int 0, .ref b3])]) rfl ?_
  refine wp_front C 4 (L' := [(a3, true, .inl kS, [.int 0, .ref b3]), (b3, true, .inr .byte, ([107, 101, 121, 32, 39, k0, k1, 39, 58, 32, p0, p1]).map bt), (ea, true, .inl kEm, [.ref ra]), (ra, true, .inl kS, [.int 0, .ref rb]), (rb, true, .inr .byte, ([] ++ [107, 101, 121, 32, 39] ++ [k0, k1] ++ [39, 58, 32] ++ [p0, p1]).map bt)]) rfl ?_
  refine wp_front C 4 (L' := [(rb, true, .inr .byte, ([] ++ [107, 101, 121, 32, 39] ++ [k0, k1] ++ [39, 58, 32] ++ [p0, p1]).map bt), (a3, true, .inl kS, [.int 0, .ref b3]), (b3, true, .inr .byte, ([107, 101, 121, 32, 39, k0, k1, 39, 58, 32, p0, p1]).map bt), (ea, true, .inl kEm, [.ref ra]), (ra, true, .inl kS, [.int 0, .ref rb])]) rfl ?_
  refine wp_front C 4 (L' := [(ra, true, .inl kS, [.int 0, .ref rb]), (rb, true, .inr .byte, ([] ++ [107, 101, 121, 32, 39] ++ [k0, k1] ++ [39, 58, 32] ++ [p0, p1]).map bt), (a3, true, .inl kS, [.int 0, .ref b3]), (b3, true, .inr .byte, ([107, 101, 121, 32, 39, k0, k1, 39, 58, 32, p0, p1]).map bt), (ea, true, .inl kEm, [.ref ra])]) rfl ?_
  refine wp_virtual C (al := [.ref a3]) (rest := []) (L1 := [(ea, true, .inl kEm, [.ref ra])]) (W := 0) (cells' := 19) (slots' := 2914) 117 194 0 (rm_eq1 l Z a0 hw ra rb a3 b3 ([] ++ [107, 101, 121, 32, 39] ++ [k0, k1] ++ [39, 58, 32] ++ [p0, p1]) [107, 101, 121, 32, 39, k0, k1, 39, 58, 32, p0, p1] cz S1 hcz (lat_app (lat_app (lat_app (lat_app lat_nil lat_key) (by intro c hc; simp only [List.mem_cons, List.not_mem_nil, or_false] at hc; rcases hc with rfl | rfl <;> assumption)) lat_sep) (by intro c hc; simp only [List.mem_cons, List.not_mem_nil, or_false] at hc; rcases hc with rfl | rfl <;> assumption)) (by intro c hc; simp only [List.mem_cons, List.not_mem_nil, or_false] at hc; rcases hc with rfl | rfl | rfl | rfl | rfl | rfl | rfl | rfl | rfl | rfl | rfl | rfl <;> first | assumption | decide) (by simp) (by simp)) rfl rfl rfl (wd hw 210 rfl) (wd hw 211 rfl) (nf_self (wd hw 213 rfl)) (wd hw 213 rfl) (wd hw 212 rfl) (wd hw 214 rfl) (wd hw 2 rfl) (by decide) pd25 rfl rfl rfl rfl (by decide) (by decide) rfl rfl rfl (by decide) (by decide) (fun v L' hQ => ?_)
  obtain ⟨rfl, rfl⟩ := hQ
  show Wp K 19 2914 [(ra, true, .inl kS, [.int 0, .ref rb]), (rb, true, .inr .byte, ([] ++ [107, 101, 121, 32, 39] ++ [k0, k1] ++ [39, 58, 32] ++ [p0, p1]).map bt), (a3, true, .inl kS, [.int 0, .ref b3]), (b3, true, .inr .byte, ([107, 101, 121, 32, 39, k0, k1, 39, 58, 32, p0, p1]).map bt), (ea, true, .inl kEm, [.ref ra])] 194 [.val (.int a), .val (.int b), .val (.int d), .val (.int e), .val (.int k0), .val (.int k1), .val (.int p0), .val (.int p1), .val (.ref a1), .val (.ref a2), .val (.ref ca3), .val (.ref a3), .val (.ref ea), .val (.ref ra)] [.int (if [] ++ [107, 101, 121, 32, 39] ++ [k0, k1] ++ [39, 58, 32] ++ [p0, p1] = [107, 101, 121, 32, 39, k0, k1, 39, 58, 32, p0, p1] then 1 else 0)]
  rw [if_pos (show [] ++ [107, 101, 121, 32, 39] ++ [k0, k1] ++ [39, 58, 32] ++ [p0, p1] = [107, 101, 121, 32, 39, k0, k1, 39, 58, 32, p0, p1] from rfl)]
  refine wp_ifz C 118 201 197 rfl rfl rfl (by decide) (fun h => absurd h (fun q : (1 : Int32) = 0 => absurd q (by decide))) (fun _ => ?_)
  refine wp_blk C 119 2 (pc' := 202) (ls' := [.val (.int a), .val (.int b), .val (.int d), .val (.int e), .val (.int k0), .val (.int k1), .val (.int p0), .val (.int p1), .val (.ref a1), .val (.ref a2), .val (.ref ca3), .val (.ref a3), .val (.ref ea), .val (.ref ra)]) (st' := [.int 1]) rfl ?_
  exact wp_retN C (z' := 1) 121 rfl (Or.inl rfl) rfl (by decide) (by decide) (rfl)
set_option maxRecDepth 65536 in
set_option maxHeartbeats 40000000 in
theorem comes_1 {Post : Tables → Env → Array Value → State → Outcome → State → Prop} (hpost : ∀ tb e args s v u, (limb_1_1.after args s (.returned v) u = true ∧ limb_1_2.after args s (.returned v) u = true ∧ True) → ReturnedEndW s (.returned v) u (Jvm.fieldLocs frame_1_writes args s ++ Jvm.arrayLocs frame_1_arrays args s ++ Jvm.staticLocs frame_1_statics s) room_1.cells room_1.slots → Post tb e args s (.returned v) u) :
    ArmFor flags0 classFile x code maxLocals ret World_1 tables_1 room_1 Calls_1 rest_1 Pre_1 Post := by
  intro l hfl _ _ p e ha hc hk s m args below hf hA hF happ hP
  obtain ⟨hcalls, hrest, hpre⟩ := hP
  obtain ⟨-, -, -, hnamed, -, -, -, hat⟩ := (Spec.applies_iff hf).mp happ
  obtain ⟨hg, hn⟩ := and_e (Cond.before_iff.mp (show (Jvm.Cond.and given_1 narrow_1).before args s = true from hpre))
  obtain ⟨g0, g1⟩ := and_e hg
  obtain ⟨g1, g2⟩ := and_e g1
  obtain ⟨g2, g3⟩ := and_e g2
  obtain ⟨g3, g4⟩ := and_e g3
  obtain ⟨w0, w1, w2, w3, rfl⟩ : ∃ w0 w1 w2 w3 : Value, args = #[w0, w1, w2, w3] := by
    have hs : args.size = 4 := by simpa [Cond.value, given_1] using g0
    obtain ⟨L⟩ := args
    match L, hs with
    | [w0, w1, w2, w3], _ => exact ⟨w0, w1, w2, w3, rfl⟩
  have hw := fun d (hd : d ∈ tables_1) => atoms_spec (ws := Jvm.Cond.code x code maxLocals ret :: tables_1) hat d (List.mem_cons_of_mem _ hd)
  obtain ⟨hsets, hown0⟩ := atoms_of _ (rest_1_c_eq ▸ (show rest_1_c.before _ s = true from hrest))
  have n5 := not_v (Cond.before_iff.mp (hsets _ (List.mem_of_getElem? (i := 2) rfl)))
  obtain ⟨cz, ez⟩ := is_v (Cond.before_iff.mp (hsets _ (List.mem_of_getElem? (i := 1) rfl)))
  have S1 : Sta s s.heap "java/lang/String" "COMPACT_STRINGS" "Z" (.int cz) := Sta.start ez (Or.inl (hsets _ (List.mem_of_getElem? (i := 0) rfl)))
  have hcz : cz ≠ 0 := gotF (Cond.eq_ints ez (Term.int_eval (0))) n5
  have hcw := hsets _ (List.mem_of_getElem? (i := 2) rfl)
  obtain ⟨i0, e0⟩ := is_v g1
  obtain rfl : w0 = (.int i0) := Option.some.inj e0
  obtain ⟨i1, e1⟩ := is_v g2
  obtain rfl : w1 = (.int i1) := Option.some.inj e1
  obtain ⟨i2, e2⟩ := is_v g3
  obtain rfl : w2 = (.int i2) := Option.some.inj e2
  obtain ⟨i3, e3⟩ := is_v g4
  obtain rfl : w3 = (.int i3) := Option.some.inj e3
  have hl : l.stackTraces = true := by unfold Launch.stackTraces; rw [hfl]; decide
  obtain ⟨ua, eua⟩ := arr_v (Cond.before_iff.mp (hsets _ (List.mem_of_getElem? (i := 17) rfl)))
  obtain ⟨sv, esv⟩ := exa_v (Cond.before_iff.mp (hsets _ (List.mem_of_getElem? (i := 22) rfl)))
  have SU : Sta s s.heap "java/lang/Throwable" "UNASSIGNED_STACK" "[Ljava/lang/StackTraceElement;" (.ref ua) := Sta.start eua (Or.inl (hsets _ (List.mem_of_getElem? (i := 15) rfl)))
  have SS : Sta s s.heap "java/lang/Throwable" "SUPPRESSED_SENTINEL" "Ljava/util/List;" (.ref sv) := Sta.start esv (Or.inl (hsets _ (List.mem_of_getElem? (i := 20) rfl)))
  have hH : Hp s EL1 s.vm s.heap ([] ++ []) := ⟨⟨Nat.le_refl _, fun _ _ q => q⟩, CHv.start (ew1 hw) hcalls.2.2.1 hcw (wd hw 19 rfl) (wd hw 1 rfl), (by simp), (by simp), (by simp)⟩
  obtain ⟨n, o, h1, h2, h3, v, Lc, L', rfl, hG, -, hFr, -, -, hq⟩ := rm_law l s _ hw i0 i1 i2 i3 cz S1 hcz hl ua sv SU SS [] p e ha hc hk s m _ below hf ((Spec.applies_iff_loose hf).mp happ).1 ⟨rfl, State.Warmed39.refl s, hH⟩ ⟨MethodsKnown_of_tablesKnown hcalls.2.1, FramesKnown_of_framesKnown hcalls.1 hf⟩
  obtain rfl := hG
  refine ⟨n, _, h1, h2, h3, hpost _ _ _ _ _ _ ⟨Cond.after_iff.mpr rfl, Cond.after_iff.mpr (eq_i res_at (Term.int_eval (1)) rfl), trivial⟩ ⟨hq.1, hq.2.1, hq.2.2.1, (hq.2.2.2.sift fun y hy => Or.inr (hFr y hy)).mono (Nat.le_refl _) (Nat.le_refl _)⟩⟩
theorem main_1_1 : Claimed_1_1 := comes_1 fun _ _ _ _ _ _ h hF => ⟨h.1, hF⟩
theorem main_1_2 : Claimed_1_2 := comes_1 fun _ _ _ _ _ _ h hF => ⟨h.2.1, hF⟩
end Jvm.Pilot.@@N@@
namespace Jvm.Pilot.@@N@@
open Jvm Jvm.ClassFile Sem Op Lib Jvm.Free Jvm.Stand Jvm.Pilot.@@N@@.Jvm.D
/-! MADE BY PROGRAM (witnessworld.py) out of the Statement's table words and the real class files: 41 classes; the members and pool entries that the words name. The judged class is class 1, her method 1. -/
namespace start1
open Jvm.ClassFile
def u (s : String) : CpInfo := .utf8 (stringToUtf16 s)
/-- a pool by its gaps: so many unusable entries, then the entry; so many at the end -/
def gap : Nat → List CpInfo → List CpInfo
  | 0, r => r
  | n + 1, r => .unusable :: gap n r
def poolList (es : List (Nat × CpInfo)) (last : Nat) : List CpInfo := es.foldr (fun e r => gap e.1 (e.2 :: r)) (gap last [])
def pool (es : List (Nat × CpInfo)) (last : Nat) : Array CpInfo := ⟨poolList es last⟩
def fileOf (pool : Array CpInfo) (this : Nat) (attrs : Array Attribute := #[]) (ms : Array MethodInfo := #[]) (fl : Nat := 33) (sup : Nat := 0) (ifs : Array Nat := #[]) (fds : Array FieldInfo := #[]) : ClassFile where
  minorVersion := 0
  majorVersion := 65
  constantPool := pool
  accessFlags := fl
  thisClass := this
  superClass := sup
  interfaces := ifs
  fields := fds
  methods := ms
  attributes := attrs
def plain (name : String) (sup : Option ClassId) : Class where
  name := name
  kind := .ordinary
  loader := none
  accessFlags := 33
  super := sup
  interfaces := #[]
  cf := none
  fields := #[]
  methods := #[]
  instanceTypes := #[]
  staticTypes := #[]
  resolved := #[]
  callSites := []
  init := .initialized
  statics := none
  mirror := none

def pool0 : Array CpInfo := pool [(5, u "<init>"), (0, u "()V"), (1, .class_ 10), (1, u "java/lang/Object")] 113

def k0c0 : Code := { maxStack := 0, maxLocals := 1, code := object_method_1_code, exceptionTable := #[], attributes := #[] }
def k0m0 : Method := { name := "<init>", desc := "()V", sig := { parameters := [], returnType := none }, accessFlags := 1, code := some k0c0 }
/-- java/lang/Object -/
def k0 : Class := { plain "java/lang/Object" none with
  accessFlags := 33
  interfaces := #[]
  cf := some (fileOf pool0 8 #[] #[{ accessFlags := 1, nameIndex := 5, descriptorIndex := 6, attributes := #[] }] 33 0 #[] #[])
  fields := #[]
  methods := #[k0m0]
  instanceTypes := #[]
  staticTypes := #[]
  resolved := Array.replicate 124 none
  statics := none }

def pool1 : Array CpInfo := pool [(2, .class_ 4), (1, u "java/lang/Object"), (0, u "<init>"), (0, u "()V"), (0, .class_ 8), (0, u "java/lang/String"), (0, .methodref 7 10), (0, .nameAndType 5 11), (0, u "([C)V"), (0, .methodref 13 14), (0, .class_ 15), (0, .nameAndType 16 17), (0, u "com/example/remitter/remitter/ConfigException"), (0, u "atKey"), (0, u "(Ljava/lang/String;Ljava/lang/String;)Lcom/example/remitter/remitter/ConfigException;"), (0, .methodref 13 19), (0, .nameAndType 20 21), (0, u "getMessage"), (0, u "()Ljava/lang/String;"), (0, .methodref 7 23), (0, .nameAndType 24 25), (0, u "equals"), (0, u "(Ljava/lang/Object;)Z"), (0, .class_ 27), (0, u "com/example/remitter/remitter/ConfigExceptionAtKeyPinLaw"), (2, u "law"), (0, u "(IIII)Z")] 5

def k1m0 : Method := { name := "<init>", desc := "()V", sig := { parameters := [], returnType := none }, accessFlags := 1, code := none }
def k1c1 : Code := { maxStack := 6, maxLocals := 14, code := code, exceptionTable := #[], attributes := #[] }
def k1m1 : Method := { name := "law", desc := "(IIII)Z", sig := { parameters := [.int, .int, .int, .int], returnType := some .boolean }, accessFlags := 9, code := some k1c1 }
/-- com/example/remitter/remitter/ConfigExceptionAtKeyPinLaw -/
def k1 : Class := { plain "com/example/remitter/remitter/ConfigExceptionAtKeyPinLaw" (some 0) with
  accessFlags := 49
  interfaces := #[]
  cf := some (fileOf pool1 26 #[] #[{ accessFlags := 1, nameIndex := 5, descriptorIndex := 6, attributes := #[] }, { accessFlags := 9, nameIndex := 30, descriptorIndex := 31, attributes := #[] }] 49 2 #[] #[])
  fields := #[]
  methods := #[k1m0, k1m1]
  instanceTypes := #[]
  staticTypes := #[]
  resolved := Array.replicate 37 none
  statics := none }

def pool2 : Array CpInfo := pool [(1, .class_ 2), (0, u "java/io/Serializable"), (0, .class_ 4), (0, u "java/lang/Object")] 2

/-- java/io/Serializable -/
def k2 : Class := { plain "java/io/Serializable" (some 0) with
  accessFlags := 1537
  interfaces := #[]
  cf := some (fileOf pool2 1 #[] #[] 1537 3 #[] #[])
  fields := #[]
  methods := #[]
  instanceTypes := #[]
  staticTypes := #[]
  resolved := Array.replicate 7 none
  statics := none }

def pool3 : Array CpInfo := pool [(1, .class_ 2), (0, u "java/lang/Comparable"), (0, .class_ 4), (0, u "java/lang/Object")] 7

/-- java/lang/Comparable -/
def k3 : Class := { plain "java/lang/Comparable" (some 0) with
  accessFlags := 1537
  interfaces := #[]
  cf := some (fileOf pool3 1 #[] #[] 1537 3 #[] #[])
  fields := #[]
  methods := #[]
  instanceTypes := #[]
  staticTypes := #[]
  resolved := Array.replicate 12 none
  statics := none }

def pool4 : Array CpInfo := pool [(2, .class_ 4), (1, u "java/lang/CharSequence"), (42, .class_ 48), (0, u "java/lang/CharSequence$1CodePointIterator"), (10, .class_ 60), (0, u "java/lang/CharSequence$1CharIterator"), (5, .class_ 67), (0, u "java/lang/Object")] 63

/-- java/lang/CharSequence -/
def k4 : Class := { plain "java/lang/CharSequence" (some 0) with
  accessFlags := 1537
  interfaces := #[]
  cf := some (fileOf pool4 2 #[.nestMembers #[47, 59]] #[] 1537 66 #[] #[])
  fields := #[]
  methods := #[]
  instanceTypes := #[]
  staticTypes := #[]
  resolved := Array.replicate 131 none
  statics := none }

def pool5 : Array CpInfo := pool [(1, .class_ 2), (0, u "java/lang/constant/Constable"), (0, .class_ 4), (0, u "java/lang/Object")] 6

/-- java/lang/constant/Constable -/
def k5 : Class := { plain "java/lang/constant/Constable" (some 0) with
  accessFlags := 1537
  interfaces := #[]
  cf := some (fileOf pool5 1 #[] #[] 1537 3 #[] #[])
  fields := #[]
  methods := #[]
  instanceTypes := #[]
  staticTypes := #[]
  resolved := Array.replicate 11 none
  statics := none }

def pool6 : Array CpInfo := pool [(1, .class_ 2), (0, u "java/lang/constant/ConstantDesc"), (0, .class_ 4), (0, u "java/lang/Object")] 32

/-- java/lang/constant/ConstantDesc -/
def k6 : Class := { plain "java/lang/constant/ConstantDesc" (some 0) with
  accessFlags := 1537
  interfaces := #[]
  cf := some (fileOf pool6 1 #[] #[] 1537 3 #[] #[])
  fields := #[]
  methods := #[]
  instanceTypes := #[]
  staticTypes := #[]
  resolved := Array.replicate 37 none
  statics := none }

def pool7 : Array CpInfo := pool [(1, .methodref 2 3), (0, .class_ 4), (0, .nameAndType 5 6), (0, u "java/lang/Object"), (0, u "<init>"), (0, u "()V"), (2, .fieldref 10 11), (0, .class_ 12), (0, .nameAndType 13 14), (0, u "java/lang/String"), (0, u "value"), (0, u "[B"), (0, .fieldref 10 16), (0, .nameAndType 17 18), (0, u "coder"), (0, u "B"), (2, u "hash"), (0, u "I"), (2, u "hashIsZero"), (0, u "Z"), (0, .methodref 10 28), (0, .nameAndType 5 29), (0, u "([CIILjava/lang/Void;)V"), (8, .fieldref 10 39), (0, .nameAndType 40 26), (0, u "COMPACT_STRINGS"), (1, .class_ 44), (1, u "java/lang/StringUTF16"), (0, u "compress"), (1, .methodref 42 48), (0, .nameAndType 49 50), (0, u "coderFromArrayLen"), (0, u "([BI)B"), (3, .methodref 55 56), (0, .class_ 57), (0, .nameAndType 58 59), (0, u "java/util/Arrays"), (0, u "copyOfRange"), (0, u "([BII)[B"), (47, .class_ 109), (1, u "java/lang/StringLatin1"), (32, u "()Z"), (34, .methodref 42 178), (0, .nameAndType 45 179), (0, u "([CII)[B"), (13, .class_ 195), (1, u "java/lang/System"), (16, .methodref 193 213), (0, .nameAndType 214 215), (0, u "arraycopy"), (0, u "(Ljava/lang/Object;ILjava/lang/Object;II)V"), (118, u "()I"), (0, .methodref 10 336), (0, .nameAndType 17 337), (0, u "()B"), (2, u "()[B"), (148, .methodref 10 490), (0, .nameAndType 5 491), (0, u "(Ljava/lang/AbstractStringBuilder;Ljava/lang/Void;)V"), (1, .nameAndType 494 142), (0, u "isLatin1"), (11, .nameAndType 507 334), (0, u "length"), (24, u "getBytes"), (8, .methodref 107 542), (0, .nameAndType 543 544), (0, u "equals"), (0, u "([B[B)Z"), (4, .methodref 550 506), (0, .class_ 551), (0, u "java/lang/AbstractStringBuilder"), (0, .methodref 550 553), (0, .nameAndType 554 340), (0, u "getValue"), (18, u "(Ljava/lang/Object;)Z"), (1, .class_ 576), (0, u "java/lang/CharSequence"), (22, u "CASE_INSENSITIVE_ORDER"), (0, u "Ljava/util/Comparator;"), (220, u "([BIB)V"), (188, u "([C)V"), (36, .methodref 550 493), (53, u "serialPersistentFields"), (0, u "[Ljava/io/ObjectStreamField;"), (0, .class_ 1104), (0, u "java/lang/String$CaseInsensitiveComparator"), (1, .class_ 1107), (0, u "java/io/Serializable"), (0, .class_ 1109), (0, u "java/lang/Comparable"), (0, .class_ 1111), (0, u "java/lang/constant/Constable"), (0, .class_ 1113), (0, u "java/lang/constant/ConstantDesc"), (2, u "serialVersionUID"), (0, u "J"), (3, u "REPL"), (0, u "C"), (2, u "LATIN1"), (1, u "UTF16"), (105, u "(Ljava/lang/StringBuilder;)V")] 217

def k7m0 : Method := { name := "<init>", desc := "()V", sig := { parameters := [], returnType := none }, accessFlags := 1, code := none }
def k7c1 : Code := { maxStack := 5, maxLocals := 2, code := jdk_42_method_3_code, exceptionTable := #[], attributes := #[] }
def k7m1 : Method := { name := "<init>", desc := "([C)V", sig := { parameters := [(.array .char)], returnType := none }, accessFlags := 1, code := some k7c1 }
def k7c2 : Code := { maxStack := 3, maxLocals := 2, code := jdk_42_method_53_code, exceptionTable := #[], attributes := #[] }
def k7m2 : Method := { name := "<init>", desc := "(Ljava/lang/StringBuilder;)V", sig := { parameters := [(.object "java/lang/StringBuilder")], returnType := none }, accessFlags := 1, code := some k7c2 }
def k7c3 : Code := { maxStack := 2, maxLocals := 1, code := jdk_42_method_54_code, exceptionTable := #[], attributes := #[] }
def k7m3 : Method := { name := "length", desc := "()I", sig := { parameters := [], returnType := some .int }, accessFlags := 1, code := some k7c3 }
def k7c4 : Code := { maxStack := 2, maxLocals := 3, code := jdk_42_method_66_code, exceptionTable := #[], attributes := #[] }
def k7m4 : Method := { name := "equals", desc := "(Ljava/lang/Object;)Z", sig := { parameters := [(.object "java/lang/Object")], returnType := some .boolean }, accessFlags := 1, code := some k7c4 }
def k7c5 : Code := { maxStack := 5, maxLocals := 4, code := jdk_42_method_147_code, exceptionTable := #[], attributes := #[] }
def k7m5 : Method := { name := "getBytes", desc := "([BIB)V", sig := { parameters := [(.array .byte), .int, .byte], returnType := none }, accessFlags := 0, code := some k7c5 }
def k7c6 : Code := { maxStack := 4, maxLocals := 6, code := jdk_42_method_149_code, exceptionTable := #[], attributes := #[] }
def k7m6 : Method := { name := "<init>", desc := "([CIILjava/lang/Void;)V", sig := { parameters := [(.array .char), .int, .int, (.object "java/lang/Void")], returnType := none }, accessFlags := 2, code := some k7c6 }
def k7c7 : Code := { maxStack := 5, maxLocals := 5, code := jdk_42_method_150_code, exceptionTable := #[], attributes := #[] }
def k7m7 : Method := { name := "<init>", desc := "(Ljava/lang/AbstractStringBuilder;Ljava/lang/Void;)V", sig := { parameters := [(.object "java/lang/AbstractStringBuilder"), (.object "java/lang/Void")], returnType := none }, accessFlags := 0, code := some k7c7 }
def k7c8 : Code := { maxStack := 1, maxLocals := 1, code := jdk_42_method_152_code, exceptionTable := #[], attributes := #[] }
def k7m8 : Method := { name := "coder", desc := "()B", sig := { parameters := [], returnType := some .byte }, accessFlags := 0, code := some k7c8 }
/-- java/lang/String -/
def k7 : Class := { plain "java/lang/String" (some 0) with
  accessFlags := 49
  interfaces := #[2, 3, 4, 5, 6]
  cf := some (fileOf pool7 10 #[.nestMembers #[1103]] #[{ accessFlags := 1, nameIndex := 5, descriptorIndex := 6, attributes := #[] }, { accessFlags := 1, nameIndex := 5, descriptorIndex := 1010, attributes := #[] }, { accessFlags := 1, nameIndex := 5, descriptorIndex := 1233, attributes := #[] }, { accessFlags := 1, nameIndex := 507, descriptorIndex := 334, attributes := #[] }, { accessFlags := 1, nameIndex := 543, descriptorIndex := 573, attributes := #[] }, { accessFlags := 0, nameIndex := 532, descriptorIndex := 821, attributes := #[] }, { accessFlags := 2, nameIndex := 5, descriptorIndex := 29, attributes := #[] }, { accessFlags := 0, nameIndex := 5, descriptorIndex := 491, attributes := #[] }, { accessFlags := 0, nameIndex := 17, descriptorIndex := 337, attributes := #[] }] 49 2 #[1106, 1108, 575, 1110, 1112] #[{ accessFlags := 18, nameIndex := 13, descriptorIndex := 14, attributes := #[] }, { accessFlags := 18, nameIndex := 17, descriptorIndex := 18, attributes := #[] }, { accessFlags := 2, nameIndex := 21, descriptorIndex := 22, attributes := #[] }, { accessFlags := 2, nameIndex := 25, descriptorIndex := 26, attributes := #[] }, { accessFlags := 26, nameIndex := 1116, descriptorIndex := 1117, attributes := #[] }, { accessFlags := 24, nameIndex := 40, descriptorIndex := 26, attributes := #[] }, { accessFlags := 26, nameIndex := 1101, descriptorIndex := 1102, attributes := #[] }, { accessFlags := 26, nameIndex := 1121, descriptorIndex := 1122, attributes := #[] }, { accessFlags := 25, nameIndex := 599, descriptorIndex := 600, attributes := #[] }, { accessFlags := 24, nameIndex := 1125, descriptorIndex := 18, attributes := #[] }, { accessFlags := 24, nameIndex := 1127, descriptorIndex := 18, attributes := #[] }])
  fields := #[{ name := "value", type := (.array .byte), accessFlags := 18, slot := 0, constantValue := 0 }, { name := "coder", type := .byte, accessFlags := 18, slot := 1, constantValue := 0 }, { name := "hash", type := .int, accessFlags := 2, slot := 2, constantValue := 0 }, { name := "hashIsZero", type := .boolean, accessFlags := 2, slot := 3, constantValue := 0 }, { name := "serialVersionUID", type := .long, accessFlags := 26, slot := 0, constantValue := 0 }, { name := "COMPACT_STRINGS", type := .boolean, accessFlags := 24, slot := 1, constantValue := 0 }, { name := "serialPersistentFields", type := (.array (.object "java/io/ObjectStreamField")), accessFlags := 26, slot := 2, constantValue := 0 }, { name := "REPL", type := .char, accessFlags := 26, slot := 3, constantValue := 0 }, { name := "CASE_INSENSITIVE_ORDER", type := (.object "java/util/Comparator"), accessFlags := 25, slot := 4, constantValue := 0 }, { name := "LATIN1", type := .byte, accessFlags := 24, slot := 5, constantValue := 0 }, { name := "UTF16", type := .byte, accessFlags := 24, slot := 6, constantValue := 0 }]
  methods := #[k7m0, k7m1, k7m2, k7m3, k7m4, k7m5, k7m6, k7m7, k7m8]
  instanceTypes := #[(.array .byte), .byte, .int, .boolean]
  staticTypes := #[.long, .boolean, (.array (.object "java/io/ObjectStreamField")), .char, (.object "java/util/Comparator"), .byte, .byte]
  resolved := Array.replicate 1451 none
  statics := some 0 }

def pool8 : Array CpInfo := pool [(6, .class_ 8), (1, u "java/lang/Object"), (0, u "<init>"), (0, u "()V"), (1, .class_ 14), (1, u "java/lang/StringUTF16"), (31, u "$assertionsDisabled"), (0, u "Z"), (13, u "HI_BYTE_SHIFT"), (0, u "I"), (2, u "LO_BYTE_SHIFT"), (49, .methodref 12 116), (0, .nameAndType 117 118), (0, u "compress"), (0, u "([CI[BII)I"), (3, u "([CII)[B"), (138, u "coderFromArrayLen"), (0, u "([BI)B"), (106, .class_ 371), (1, u "java/lang/StringUTF16$LinesSpliterator"), (58, u "MAX_LENGTH"), (196, .class_ 628), (0, u "java/lang/StringUTF16$CodePointsSpliterator"), (0, .class_ 630), (0, u "java/lang/StringUTF16$CharsSpliterator")] 4

def k8m0 : Method := { name := "<init>", desc := "()V", sig := { parameters := [], returnType := none }, accessFlags := 0, code := none }
def k8c1 : Code := { maxStack := 2, maxLocals := 2, code := jdk_52_method_15_code, exceptionTable := #[], attributes := #[] }
def k8m1 : Method := { name := "coderFromArrayLen", desc := "([BI)B", sig := { parameters := [(.array .byte), .int], returnType := some .byte }, accessFlags := 8, code := some k8c1 }
def k8c2 : Code := { maxStack := 5, maxLocals := 6, code := jdk_52_method_16_code, exceptionTable := #[], attributes := #[] }
def k8m2 : Method := { name := "compress", desc := "([CII)[B", sig := { parameters := [(.array .char), .int, .int], returnType := some (.array .byte) }, accessFlags := 9, code := some k8c2 }
def k8c3 : Code := { maxStack := 3, maxLocals := 7, code := jdk_52_method_21_code, exceptionTable := #[], attributes := #[] }
def k8m3 : Method := { name := "compress", desc := "([CI[BII)I", sig := { parameters := [(.array .char), .int, (.array .byte), .int, .int], returnType := some .int }, accessFlags := 9, code := some k8c3 }
/-- java/lang/StringUTF16 -/
def k8 : Class := { plain "java/lang/StringUTF16" (some 0) with
  accessFlags := 48
  interfaces := #[]
  cf := some (fileOf pool8 12 #[.nestMembers #[627, 629, 369]] #[{ accessFlags := 0, nameIndex := 9, descriptorIndex := 10, attributes := #[] }, { accessFlags := 8, nameIndex := 261, descriptorIndex := 262, attributes := #[] }, { accessFlags := 9, nameIndex := 117, descriptorIndex := 122, attributes := #[] }, { accessFlags := 9, nameIndex := 117, descriptorIndex := 118, attributes := #[] }] 48 6 #[] #[{ accessFlags := 26, nameIndex := 61, descriptorIndex := 62, attributes := #[] }, { accessFlags := 26, nameIndex := 65, descriptorIndex := 62, attributes := #[] }, { accessFlags := 24, nameIndex := 430, descriptorIndex := 62, attributes := #[] }, { accessFlags := 4120, nameIndex := 46, descriptorIndex := 47, attributes := #[] }])
  fields := #[{ name := "HI_BYTE_SHIFT", type := .int, accessFlags := 26, slot := 0, constantValue := 0 }, { name := "LO_BYTE_SHIFT", type := .int, accessFlags := 26, slot := 1, constantValue := 0 }, { name := "MAX_LENGTH", type := .int, accessFlags := 24, slot := 2, constantValue := 0 }, { name := "$assertionsDisabled", type := .boolean, accessFlags := 4120, slot := 3, constantValue := 0 }]
  methods := #[k8m0, k8m1, k8m2, k8m3]
  instanceTypes := #[]
  staticTypes := #[.int, .int, .int, .boolean]
  resolved := Array.replicate 635 none
  statics := none }

def pool9 : Array CpInfo := pool [(1, .methodref 2 3), (0, .class_ 4), (0, .nameAndType 5 6), (0, u "java/lang/Object"), (0, u "<init>"), (0, u "()V"), (0, .fieldref 8 9), (0, .class_ 10), (0, .nameAndType 11 12), (0, u "java/lang/Throwable"), (0, u "cause"), (0, u "Ljava/lang/Throwable;"), (0, .fieldref 8 14), (0, .nameAndType 15 16), (0, u "UNASSIGNED_STACK"), (0, u "[Ljava/lang/StackTraceElement;"), (0, .fieldref 8 18), (0, .nameAndType 19 16), (0, u "stackTrace"), (0, .fieldref 8 21), (0, .nameAndType 22 23), (0, u "SUPPRESSED_SENTINEL"), (0, u "Ljava/util/List;"), (0, .fieldref 8 25), (0, .nameAndType 26 23), (0, u "suppressedExceptions"), (0, .methodref 8 28), (0, .nameAndType 29 30), (0, u "fillInStackTrace"), (0, u "()Ljava/lang/Throwable;"), (0, .fieldref 8 32), (0, .nameAndType 33 34), (0, u "detailMessage"), (0, u "Ljava/lang/String;"), (3, u "()Ljava/lang/String;"), (2, u "getMessage"), (51, .class_ 94), (0, u "java/lang/Throwable$WrappedPrintStream"), (6, .class_ 103), (1, u "java/lang/Throwable$PrintStreamOrWriter"), (61, u "$assertionsDisabled"), (0, u "Z"), (26, .class_ 194), (0, u "java/lang/Throwable$WrappedPrintWriter"), (3, .fieldref 8 199), (0, .nameAndType 200 201), (0, u "backtrace"), (0, u "Ljava/lang/Object;"), (0, .methodref 8 203), (0, .nameAndType 29 204), (0, u "(I)Ljava/lang/Throwable;"), (6, u "depth"), (0, u "I"), (10, u "(Ljava/lang/String;)V"), (45, .class_ 271), (1, u "java/lang/Throwable$SentinelHolder"), (32, u "EMPTY_THROWABLE_ARRAY"), (0, u "[Ljava/lang/Throwable;"), (12, .class_ 319), (0, u "java/io/Serializable"), (0, u "serialVersionUID"), (0, u "J"), (5, u "NULL_CAUSE_MESSAGE"), (0, u "SELF_SUPPRESSION_MESSAGE"), (0, u "CAUSE_CAPTION"), (0, u "SUPPRESSED_CAPTION")] 73

def k9c0 : Code := { maxStack := 2, maxLocals := 1, code := jdk_78_method_1_code, exceptionTable := #[], attributes := #[] }
def k9m0 : Method := { name := "<init>", desc := "()V", sig := { parameters := [], returnType := none }, accessFlags := 1, code := some k9c0 }
def k9c1 : Code := { maxStack := 2, maxLocals := 2, code := jdk_78_method_2_code, exceptionTable := #[], attributes := #[] }
def k9m1 : Method := { name := "<init>", desc := "(Ljava/lang/String;)V", sig := { parameters := [(.object "java/lang/String")], returnType := none }, accessFlags := 1, code := some k9c1 }
def k9c2 : Code := { maxStack := 1, maxLocals := 1, code := jdk_78_method_6_code, exceptionTable := #[], attributes := #[] }
def k9m2 : Method := { name := "getMessage", desc := "()Ljava/lang/String;", sig := { parameters := [], returnType := some (.object "java/lang/String") }, accessFlags := 1, code := some k9c2 }
def k9c3 : Code := { maxStack := 2, maxLocals := 1, code := ⟨#[0x2a, 0xb4, 0x00, 0x11, 0xc7, 0x00, 0x0a, 0x2a, 0xb4, 0x00, 0xc6, 0xc6, 0x00, 0x10, 0x2a, 0x03, 0xb6, 0x00, 0xca, 0x57, 0x2a, 0xb2, 0x00, 0x0d, 0xb5, 0x00, 0x11, 0x2a, 0xb0]⟩, exceptionTable := #[], attributes := #[] }
def k9m3 : Method := { name := "fillInStackTrace", desc := "()Ljava/lang/Throwable;", sig := { parameters := [], returnType := some (.object "java/lang/Throwable") }, accessFlags := 33, code := some k9c3 }
def k9m4 : Method := { name := "fillInStackTrace", desc := "(I)Ljava/lang/Throwable;", sig := { parameters := [.int], returnType := some (.object "java/lang/Throwable") }, accessFlags := 258, code := none }
/-- java/lang/Throwable -/
def k9 : Class := { plain "java/lang/Throwable" (some 0) with
  accessFlags := 33
  interfaces := #[2]
  cf := some (fileOf pool9 8 #[.nestMembers #[193, 93, 101, 269]] #[{ accessFlags := 1, nameIndex := 5, descriptorIndex := 6, attributes := #[] }, { accessFlags := 1, nameIndex := 5, descriptorIndex := 223, attributes := #[] }, { accessFlags := 1, nameIndex := 41, descriptorIndex := 38, attributes := #[] }, { accessFlags := 33, nameIndex := 29, descriptorIndex := 30, attributes := #[] }, { accessFlags := 258, nameIndex := 29, descriptorIndex := 204, attributes := #[] }] 33 2 #[318] #[{ accessFlags := 26, nameIndex := 320, descriptorIndex := 321, attributes := #[] }, { accessFlags := 130, nameIndex := 200, descriptorIndex := 201, attributes := #[] }, { accessFlags := 2, nameIndex := 33, descriptorIndex := 34, attributes := #[] }, { accessFlags := 26, nameIndex := 15, descriptorIndex := 16, attributes := #[] }, { accessFlags := 2, nameIndex := 11, descriptorIndex := 12, attributes := #[] }, { accessFlags := 2, nameIndex := 19, descriptorIndex := 16, attributes := #[] }, { accessFlags := 130, nameIndex := 211, descriptorIndex := 212, attributes := #[] }, { accessFlags := 26, nameIndex := 22, descriptorIndex := 23, attributes := #[] }, { accessFlags := 2, nameIndex := 26, descriptorIndex := 23, attributes := #[] }, { accessFlags := 26, nameIndex := 327, descriptorIndex := 34, attributes := #[] }, { accessFlags := 26, nameIndex := 328, descriptorIndex := 34, attributes := #[] }, { accessFlags := 26, nameIndex := 329, descriptorIndex := 34, attributes := #[] }, { accessFlags := 26, nameIndex := 330, descriptorIndex := 34, attributes := #[] }, { accessFlags := 26, nameIndex := 304, descriptorIndex := 305, attributes := #[] }, { accessFlags := 4120, nameIndex := 165, descriptorIndex := 166, attributes := #[] }])
  fields := #[{ name := "serialVersionUID", type := .long, accessFlags := 26, slot := 0, constantValue := 0 }, { name := "backtrace", type := (.object "java/lang/Object"), accessFlags := 130, slot := 0, constantValue := 0 }, { name := "detailMessage", type := (.object "java/lang/String"), accessFlags := 2, slot := 1, constantValue := 0 }, { name := "UNASSIGNED_STACK", type := (.array (.object "java/lang/StackTraceElement")), accessFlags := 26, slot := 1, constantValue := 0 }, { name := "cause", type := (.object "java/lang/Throwable"), accessFlags := 2, slot := 2, constantValue := 0 }, { name := "stackTrace", type := (.array (.object "java/lang/StackTraceElement")), accessFlags := 2, slot := 3, constantValue := 0 }, { name := "depth", type := .int, accessFlags := 130, slot := 4, constantValue := 0 }, { name := "SUPPRESSED_SENTINEL", type := (.object "java/util/List"), accessFlags := 26, slot := 2, constantValue := 0 }, { name := "suppressedExceptions", type := (.object "java/util/List"), accessFlags := 2, slot := 5, constantValue := 0 }, { name := "NULL_CAUSE_MESSAGE", type := (.object "java/lang/String"), accessFlags := 26, slot := 3, constantValue := 0 }, { name := "SELF_SUPPRESSION_MESSAGE", type := (.object "java/lang/String"), accessFlags := 26, slot := 4, constantValue := 0 }, { name := "CAUSE_CAPTION", type := (.object "java/lang/String"), accessFlags := 26, slot := 5, constantValue := 0 }, { name := "SUPPRESSED_CAPTION", type := (.object "java/lang/String"), accessFlags := 26, slot := 6, constantValue := 0 }, { name := "EMPTY_THROWABLE_ARRAY", type := (.array (.object "java/lang/Throwable")), accessFlags := 26, slot := 7, constantValue := 0 }, { name := "$assertionsDisabled", type := .boolean, accessFlags := 4120, slot := 8, constantValue := 0 }]
  methods := #[k9m0, k9m1, k9m2, k9m3, k9m4]
  instanceTypes := #[(.object "java/lang/Object"), (.object "java/lang/String"), (.object "java/lang/Throwable"), (.array (.object "java/lang/StackTraceElement")), .int, (.object "java/util/List")]
  staticTypes := #[.long, (.array (.object "java/lang/StackTraceElement")), (.object "java/util/List"), (.object "java/lang/String"), (.object "java/lang/String"), (.object "java/lang/String"), (.object "java/lang/String"), (.array (.object "java/lang/Throwable")), .boolean]
  resolved := Array.replicate 404 none
  statics := some 1 }

def pool10 : Array CpInfo := pool [(2, .class_ 4), (1, u "java/lang/Throwable"), (0, u "<init>"), (0, u "()V"), (0, .methodref 2 8), (0, .nameAndType 5 9), (0, u "(Ljava/lang/String;)V"), (9, .class_ 20), (0, u "java/lang/Exception"), (0, u "serialVersionUID"), (0, u "J")] 17

def k10m0 : Method := { name := "<init>", desc := "()V", sig := { parameters := [], returnType := none }, accessFlags := 1, code := none }
def k10c1 : Code := { maxStack := 2, maxLocals := 2, code := jdk_59_method_2_code, exceptionTable := #[], attributes := #[] }
def k10m1 : Method := { name := "<init>", desc := "(Ljava/lang/String;)V", sig := { parameters := [(.object "java/lang/String")], returnType := none }, accessFlags := 1, code := some k10c1 }
/-- java/lang/Exception -/
def k10 : Class := { plain "java/lang/Exception" (some 9) with
  accessFlags := 33
  interfaces := #[]
  cf := some (fileOf pool10 19 #[] #[{ accessFlags := 1, nameIndex := 5, descriptorIndex := 6, attributes := #[] }, { accessFlags := 1, nameIndex := 5, descriptorIndex := 9, attributes := #[] }] 33 2 #[] #[{ accessFlags := 24, nameIndex := 21, descriptorIndex := 22, attributes := #[] }])
  fields := #[{ name := "serialVersionUID", type := .long, accessFlags := 24, slot := 0, constantValue := 0 }]
  methods := #[k10m0, k10m1]
  instanceTypes := #[(.object "java/lang/Object"), (.object "java/lang/String"), (.object "java/lang/Throwable"), (.array (.object "java/lang/StackTraceElement")), .int, (.object "java/util/List")]
  staticTypes := #[.long]
  resolved := Array.replicate 40 none
  statics := none }

def pool11 : Array CpInfo := pool [(1, .methodref 2 3), (0, .class_ 4), (0, .nameAndType 5 6), (0, u "java/lang/Exception"), (0, u "<init>"), (0, u "(Ljava/lang/String;)V"), (0, .class_ 8), (0, u "com/example/remitter/remitter/ConfigException"), (0, .methodref 7 10), (0, .nameAndType 11 12), (0, u "naming"), (0, u "(Ljava/lang/String;Ljava/lang/String;)Ljava/lang/String;"), (0, .methodref 7 3), (0, .class_ 15), (0, u "java/lang/StringBuilder"), (0, .methodref 14 17), (0, .nameAndType 5 18), (0, u "()V"), (0, .string 20), (0, u "key '"), (0, .methodref 14 22), (0, .nameAndType 23 24), (0, u "append"), (0, u "(Ljava/lang/String;)Ljava/lang/StringBuilder;"), (0, .string 26), (0, u "': "), (0, .methodref 14 28), (0, .nameAndType 29 30), (0, u "toString"), (0, u "()Ljava/lang/String;"), (0, u "serialVersionUID"), (0, u "J"), (5, u "atKey"), (0, u "(Ljava/lang/String;Ljava/lang/String;)Lcom/example/remitter/remitter/ConfigException;")] 2

def k11c0 : Code := { maxStack := 2, maxLocals := 2, code := prog_1_method_1_code, exceptionTable := #[], attributes := #[] }
def k11m0 : Method := { name := "<init>", desc := "(Ljava/lang/String;)V", sig := { parameters := [(.object "java/lang/String")], returnType := none }, accessFlags := 0, code := some k11c0 }
def k11c1 : Code := { maxStack := 4, maxLocals := 2, code := prog_1_method_2_code, exceptionTable := #[], attributes := #[] }
def k11m1 : Method := { name := "atKey", desc := "(Ljava/lang/String;Ljava/lang/String;)Lcom/example/remitter/remitter/ConfigException;", sig := { parameters := [(.object "java/lang/String"), (.object "java/lang/String")], returnType := some (.object "com/example/remitter/remitter/ConfigException") }, accessFlags := 8, code := some k11c1 }
def k11c2 : Code := { maxStack := 2, maxLocals := 2, code := prog_1_method_3_code, exceptionTable := #[], attributes := #[] }
def k11m2 : Method := { name := "naming", desc := "(Ljava/lang/String;Ljava/lang/String;)Ljava/lang/String;", sig := { parameters := [(.object "java/lang/String"), (.object "java/lang/String")], returnType := some (.object "java/lang/String") }, accessFlags := 8, code := some k11c2 }
/-- com/example/remitter/remitter/ConfigException -/
def k11 : Class := { plain "com/example/remitter/remitter/ConfigException" (some 10) with
  accessFlags := 49
  interfaces := #[]
  cf := some (fileOf pool11 7 #[] #[{ accessFlags := 0, nameIndex := 5, descriptorIndex := 6, attributes := #[] }, { accessFlags := 8, nameIndex := 38, descriptorIndex := 39, attributes := #[] }, { accessFlags := 8, nameIndex := 11, descriptorIndex := 12, attributes := #[] }] 49 2 #[] #[{ accessFlags := 26, nameIndex := 31, descriptorIndex := 32, attributes := #[] }])
  fields := #[{ name := "serialVersionUID", type := .long, accessFlags := 26, slot := 0, constantValue := 0 }]
  methods := #[k11m0, k11m1, k11m2]
  instanceTypes := #[(.object "java/lang/Object"), (.object "java/lang/String"), (.object "java/lang/Throwable"), (.array (.object "java/lang/StackTraceElement")), .int, (.object "java/util/List")]
  staticTypes := #[.long]
  resolved := Array.replicate 42 none
  statics := none }

def pool12 : Array CpInfo := pool [(1, .class_ 2), (0, u "java/lang/Appendable"), (0, .class_ 4), (0, u "java/lang/Object")] 9

/-- java/lang/Appendable -/
def k12 : Class := { plain "java/lang/Appendable" (some 0) with
  accessFlags := 1537
  interfaces := #[]
  cf := some (fileOf pool12 1 #[] #[] 1537 3 #[] #[])
  fields := #[]
  methods := #[]
  instanceTypes := #[]
  staticTypes := #[]
  resolved := Array.replicate 14 none
  statics := none }

def pool13 : Array CpInfo := pool [(1, .class_ 2), (0, u "java/lang/String"), (0, .methodref 4 5), (0, .class_ 6), (0, .nameAndType 7 8), (0, u "java/lang/Object"), (0, u "<init>"), (0, u "()V"), (1, .class_ 12), (1, u "java/lang/AbstractStringBuilder"), (0, u "EMPTYVALUE"), (0, u "[B"), (0, .fieldref 10 16), (0, .nameAndType 17 14), (0, u "value"), (0, .fieldref 1 19), (0, .nameAndType 20 21), (0, u "COMPACT_STRINGS"), (0, u "Z"), (0, .fieldref 10 23), (0, .nameAndType 24 25), (0, u "coder"), (0, u "B"), (6, .methodref 1 33), (0, .nameAndType 34 35), (0, u "length"), (0, u "()I"), (4, .methodref 1 41), (0, .nameAndType 24 42), (0, u "()B"), (2, u "append"), (0, u "(Ljava/lang/String;)Ljava/lang/AbstractStringBuilder;"), (1, .class_ 49), (0, u "java/lang/CharSequence"), (19, u "(Ljava/lang/String;)V"), (5, u "maybeLatin1"), (3, .fieldref 10 80), (0, .nameAndType 81 82), (0, u "count"), (0, u "I"), (2, u "isLatin1"), (0, u "()Z"), (13, .methodref 10 101), (0, .nameAndType 102 103), (0, u "ensureCapacityInternal"), (0, u "(I)V"), (104, .methodref 10 209), (0, .nameAndType 210 211), (0, u "putStringAt"), (0, u "(ILjava/lang/String;)V"), (5, u "inflateIfNeededFor"), (2, .nameAndType 221 222), (0, u "getBytes"), (0, u "([BIB)V"), (174, .methodref 10 398), (0, .nameAndType 217 69), (0, .methodref 1 220), (3, u "()[B"), (40, .class_ 445), (0, u "java/lang/Appendable"), (106, u "getValue")] 56

def k13m0 : Method := { name := "<init>", desc := "()V", sig := { parameters := [], returnType := none }, accessFlags := 0, code := none }
def k13c1 : Code := { maxStack := 2, maxLocals := 2, code := jdk_68_method_2_code, exceptionTable := #[], attributes := #[] }
def k13m1 : Method := { name := "<init>", desc := "(I)V", sig := { parameters := [.int], returnType := none }, accessFlags := 0, code := some k13c1 }
def k13c2 : Code := { maxStack := 1, maxLocals := 1, code := jdk_68_method_6_code, exceptionTable := #[], attributes := #[] }
def k13m2 : Method := { name := "length", desc := "()I", sig := { parameters := [], returnType := some .int }, accessFlags := 1, code := some k13c2 }
def k13c3 : Code := { maxStack := 4, maxLocals := 3, code := jdk_68_method_9_code, exceptionTable := #[], attributes := #[] }
def k13m3 : Method := { name := "ensureCapacityInternal", desc := "(I)V", sig := { parameters := [.int], returnType := none }, accessFlags := 2, code := some k13c3 }
def k13c4 : Code := { maxStack := 3, maxLocals := 3, code := jdk_68_method_22_code, exceptionTable := #[], attributes := #[] }
def k13m4 : Method := { name := "append", desc := "(Ljava/lang/String;)Ljava/lang/AbstractStringBuilder;", sig := { parameters := [(.object "java/lang/String")], returnType := some (.object "java/lang/AbstractStringBuilder") }, accessFlags := 1, code := some k13c4 }
def k13c5 : Code := { maxStack := 1, maxLocals := 1, code := jdk_68_method_64_code, exceptionTable := #[], attributes := #[] }
def k13m5 : Method := { name := "getValue", desc := "()[B", sig := { parameters := [], returnType := some (.array .byte) }, accessFlags := 16, code := some k13c5 }
def k13c6 : Code := { maxStack := 1, maxLocals := 1, code := jdk_68_method_68_code, exceptionTable := #[], attributes := #[] }
def k13m6 : Method := { name := "isLatin1", desc := "()Z", sig := { parameters := [], returnType := some .boolean }, accessFlags := 16, code := some k13c6 }
def k13c7 : Code := { maxStack := 2, maxLocals := 2, code := jdk_68_method_71_code, exceptionTable := #[], attributes := #[] }
def k13m7 : Method := { name := "inflateIfNeededFor", desc := "(Ljava/lang/String;)V", sig := { parameters := [(.object "java/lang/String")], returnType := none }, accessFlags := 2, code := some k13c7 }
def k13c8 : Code := { maxStack := 4, maxLocals := 3, code := jdk_68_method_73_code, exceptionTable := #[], attributes := #[] }
def k13m8 : Method := { name := "putStringAt", desc := "(ILjava/lang/String;)V", sig := { parameters := [.int, (.object "java/lang/String")], returnType := none }, accessFlags := 2, code := some k13c8 }
/-- java/lang/AbstractStringBuilder -/
def k13 : Class := { plain "java/lang/AbstractStringBuilder" (some 0) with
  accessFlags := 1056
  interfaces := #[12, 4]
  cf := some (fileOf pool13 10 #[] #[{ accessFlags := 0, nameIndex := 7, descriptorIndex := 8, attributes := #[] }, { accessFlags := 0, nameIndex := 7, descriptorIndex := 103, attributes := #[] }, { accessFlags := 1, nameIndex := 34, descriptorIndex := 35, attributes := #[] }, { accessFlags := 2, nameIndex := 102, descriptorIndex := 103, attributes := #[] }, { accessFlags := 1, nameIndex := 45, descriptorIndex := 46, attributes := #[] }, { accessFlags := 16, nameIndex := 552, descriptorIndex := 403, attributes := #[] }, { accessFlags := 16, nameIndex := 85, descriptorIndex := 86, attributes := #[] }, { accessFlags := 2, nameIndex := 217, descriptorIndex := 69, attributes := #[] }, { accessFlags := 2, nameIndex := 210, descriptorIndex := 211, attributes := #[] }] 1056 4 #[444, 48] #[{ accessFlags := 0, nameIndex := 17, descriptorIndex := 14, attributes := #[] }, { accessFlags := 0, nameIndex := 24, descriptorIndex := 25, attributes := #[] }, { accessFlags := 0, nameIndex := 75, descriptorIndex := 21, attributes := #[] }, { accessFlags := 0, nameIndex := 81, descriptorIndex := 82, attributes := #[] }, { accessFlags := 26, nameIndex := 13, descriptorIndex := 14, attributes := #[] }])
  fields := #[{ name := "value", type := (.array .byte), accessFlags := 0, slot := 0, constantValue := 0 }, { name := "coder", type := .byte, accessFlags := 0, slot := 1, constantValue := 0 }, { name := "maybeLatin1", type := .boolean, accessFlags := 0, slot := 2, constantValue := 0 }, { name := "count", type := .int, accessFlags := 0, slot := 3, constantValue := 0 }, { name := "EMPTYVALUE", type := (.array .byte), accessFlags := 26, slot := 0, constantValue := 0 }]
  methods := #[k13m0, k13m1, k13m2, k13m3, k13m4, k13m5, k13m6, k13m7, k13m8]
  instanceTypes := #[(.array .byte), .byte, .boolean, .int]
  staticTypes := #[(.array .byte)]
  resolved := Array.replicate 609 none
  statics := none }

def pool14 : Array CpInfo := pool [(1, .methodref 2 3), (0, .class_ 4), (0, .nameAndType 5 6), (0, u "java/lang/AbstractStringBuilder"), (0, u "<init>"), (0, u "(I)V"), (11, .class_ 20), (1, u "java/lang/String"), (3, .class_ 26), (1, u "java/lang/StringBuilder"), (0, u "append"), (0, u "(Ljava/lang/String;)Ljava/lang/StringBuilder;"), (0, .methodref 2 30), (0, .nameAndType 27 31), (0, u "(Ljava/lang/String;)Ljava/lang/AbstractStringBuilder;"), (105, .methodref 18 138), (0, .nameAndType 5 139), (0, u "(Ljava/lang/StringBuilder;)V"), (5, u "()V"), (10, u "()I"), (186, .methodref 2 344), (0, .nameAndType 345 156), (0, u "length"), (3, .class_ 350), (0, u "java/lang/Appendable"), (0, .class_ 352), (0, u "java/io/Serializable"), (0, .class_ 354), (0, u "java/lang/Comparable"), (0, .class_ 356), (0, u "java/lang/CharSequence"), (0, u "serialVersionUID"), (0, u "J"), (40, u "toString"), (0, u "()Ljava/lang/String;")] 21

def k14c0 : Code := { maxStack := 2, maxLocals := 1, code := jdk_67_method_1_code, exceptionTable := #[], attributes := #[] }
def k14m0 : Method := { name := "<init>", desc := "()V", sig := { parameters := [], returnType := none }, accessFlags := 1, code := some k14c0 }
def k14c1 : Code := { maxStack := 2, maxLocals := 2, code := jdk_67_method_7_code, exceptionTable := #[], attributes := #[] }
def k14m1 : Method := { name := "append", desc := "(Ljava/lang/String;)Ljava/lang/StringBuilder;", sig := { parameters := [(.object "java/lang/String")], returnType := some (.object "java/lang/StringBuilder") }, accessFlags := 1, code := some k14c1 }
def k14c2 : Code := { maxStack := 3, maxLocals := 1, code := jdk_67_method_42_code, exceptionTable := #[], attributes := #[] }
def k14m2 : Method := { name := "toString", desc := "()Ljava/lang/String;", sig := { parameters := [], returnType := some (.object "java/lang/String") }, accessFlags := 1, code := some k14c2 }
def k14c3 : Code := { maxStack := 1, maxLocals := 1, code := jdk_67_method_93_code, exceptionTable := #[], attributes := #[] }
def k14m3 : Method := { name := "length", desc := "()I", sig := { parameters := [], returnType := some .int }, accessFlags := 4161, code := some k14c3 }
/-- java/lang/StringBuilder -/
def k14 : Class := { plain "java/lang/StringBuilder" (some 13) with
  accessFlags := 49
  interfaces := #[12, 2, 3, 4]
  cf := some (fileOf pool14 24 #[] #[{ accessFlags := 1, nameIndex := 5, descriptorIndex := 145, attributes := #[] }, { accessFlags := 1, nameIndex := 27, descriptorIndex := 28, attributes := #[] }, { accessFlags := 1, nameIndex := 399, descriptorIndex := 400, attributes := #[] }, { accessFlags := 4161, nameIndex := 345, descriptorIndex := 156, attributes := #[] }] 49 2 #[349, 351, 353, 355] #[{ accessFlags := 24, nameIndex := 357, descriptorIndex := 358, attributes := #[] }])
  fields := #[{ name := "serialVersionUID", type := .long, accessFlags := 24, slot := 0, constantValue := 0 }]
  methods := #[k14m0, k14m1, k14m2, k14m3]
  instanceTypes := #[(.array .byte), .byte, .boolean, .int]
  staticTypes := #[.long]
  resolved := Array.replicate 422 none
  statics := none }

def pool15 : Array CpInfo := pool [(2, .class_ 4), (1, u "java/lang/Object"), (0, u "<init>"), (0, u "()V"), (1, .class_ 10), (1, u "java/lang/System"), (0, u "allowSecurityManager"), (0, u "I"), (16, u "cons"), (0, u "Ljava/io/Console;"), (77, .class_ 110), (1, u "java/lang/System$CallersHolder"), (43, u "initialErrStream"), (0, u "Ljava/io/PrintStream;"), (19, u "security"), (0, u "Ljava/lang/SecurityManager;"), (31, .class_ 209), (0, u "java/lang/System$1"), (7, u "props"), (0, u "Ljava/util/Properties;"), (2, u "lineSeparator"), (0, u "Ljava/lang/String;"), (96, .class_ 321), (1, u "java/lang/System$LoggerFinder"), (5, .class_ 328), (0, u "java/lang/System$Logger"), (67, u "err"), (2, u "out"), (91, u "notSupportedJnuEncoding"), (15, u "in"), (17, u "initialIn"), (0, u "Ljava/io/InputStream;"), (35, u "bootLayer"), (0, u "Ljava/lang/ModuleLayer;"), (99, .class_ 664), (0, u "java/lang/System$2"), (9, u "NEVER"), (2, u "MAYBE"), (49, u "arraycopy"), (0, u "(Ljava/lang/Object;ILjava/lang/Object;II)V"), (72, .class_ 802), (0, u "java/lang/System$Logger$Level")] 31

def k15m0 : Method := { name := "<init>", desc := "()V", sig := { parameters := [], returnType := none }, accessFlags := 2, code := none }
def k15m1 : Method := { name := "arraycopy", desc := "(Ljava/lang/Object;ILjava/lang/Object;II)V", sig := { parameters := [(.object "java/lang/Object"), .int, (.object "java/lang/Object"), .int, .int], returnType := none }, accessFlags := 265, code := none }
/-- java/lang/System -/
def k15 : Class := { plain "java/lang/System" (some 0) with
  accessFlags := 49
  interfaces := #[]
  cf := some (fileOf pool15 8 #[.nestMembers #[319, 327, 801, 108, 663, 208]] #[{ accessFlags := 2, nameIndex := 5, descriptorIndex := 6, attributes := #[] }, { accessFlags := 265, nameIndex := 727, descriptorIndex := 728, attributes := #[] }] 49 2 #[] #[{ accessFlags := 25, nameIndex := 507, descriptorIndex := 526, attributes := #[] }, { accessFlags := 25, nameIndex := 399, descriptorIndex := 155, attributes := #[] }, { accessFlags := 25, nameIndex := 396, descriptorIndex := 155, attributes := #[] }, { accessFlags := 10, nameIndex := 525, descriptorIndex := 526, attributes := #[] }, { accessFlags := 26, nameIndex := 674, descriptorIndex := 12, attributes := #[] }, { accessFlags := 26, nameIndex := 677, descriptorIndex := 12, attributes := #[] }, { accessFlags := 10, nameIndex := 11, descriptorIndex := 12, attributes := #[] }, { accessFlags := 74, nameIndex := 175, descriptorIndex := 176, attributes := #[] }, { accessFlags := 10, nameIndex := 491, descriptorIndex := 222, attributes := #[] }, { accessFlags := 74, nameIndex := 29, descriptorIndex := 30, attributes := #[] }, { accessFlags := 74, nameIndex := 154, descriptorIndex := 155, attributes := #[] }, { accessFlags := 10, nameIndex := 217, descriptorIndex := 218, attributes := #[] }, { accessFlags := 10, nameIndex := 221, descriptorIndex := 222, attributes := #[] }, { accessFlags := 8, nameIndex := 562, descriptorIndex := 563, attributes := #[] }])
  fields := #[{ name := "in", type := (.object "java/io/InputStream"), accessFlags := 25, slot := 0, constantValue := 0 }, { name := "out", type := (.object "java/io/PrintStream"), accessFlags := 25, slot := 1, constantValue := 0 }, { name := "err", type := (.object "java/io/PrintStream"), accessFlags := 25, slot := 2, constantValue := 0 }, { name := "initialIn", type := (.object "java/io/InputStream"), accessFlags := 10, slot := 3, constantValue := 0 }, { name := "NEVER", type := .int, accessFlags := 26, slot := 4, constantValue := 0 }, { name := "MAYBE", type := .int, accessFlags := 26, slot := 5, constantValue := 0 }, { name := "allowSecurityManager", type := .int, accessFlags := 10, slot := 6, constantValue := 0 }, { name := "security", type := (.object "java/lang/SecurityManager"), accessFlags := 74, slot := 7, constantValue := 0 }, { name := "notSupportedJnuEncoding", type := (.object "java/lang/String"), accessFlags := 10, slot := 8, constantValue := 0 }, { name := "cons", type := (.object "java/io/Console"), accessFlags := 74, slot := 9, constantValue := 0 }, { name := "initialErrStream", type := (.object "java/io/PrintStream"), accessFlags := 74, slot := 10, constantValue := 0 }, { name := "props", type := (.object "java/util/Properties"), accessFlags := 10, slot := 11, constantValue := 0 }, { name := "lineSeparator", type := (.object "java/lang/String"), accessFlags := 10, slot := 12, constantValue := 0 }, { name := "bootLayer", type := (.object "java/lang/ModuleLayer"), accessFlags := 8, slot := 13, constantValue := 0 }]
  methods := #[k15m0, k15m1]
  instanceTypes := #[]
  staticTypes := #[(.object "java/io/InputStream"), (.object "java/io/PrintStream"), (.object "java/io/PrintStream"), (.object "java/io/InputStream"), .int, .int, .int, (.object "java/lang/SecurityManager"), (.object "java/lang/String"), (.object "java/io/Console"), (.object "java/io/PrintStream"), (.object "java/util/Properties"), (.object "java/lang/String"), (.object "java/lang/ModuleLayer")]
  resolved := Array.replicate 834 none
  statics := none }

def pool16 : Array CpInfo := pool [(2, .class_ 4), (1, u "java/lang/Object"), (0, u "<init>"), (0, u "()V"), (7, .class_ 16), (1, u "java/util/Arrays"), (57, .class_ 76), (1, u "java/util/Arrays$NaturalOrder"), (36, .class_ 115), (1, u "java/util/Arrays$LegacyMergeSort"), (1, u "Z"), (21, u "copyOfRange"), (10, .methodref 151 152), (0, .class_ 153), (0, .nameAndType 154 155), (0, u "java/lang/System"), (0, u "arraycopy"), (0, u "(Ljava/lang/Object;ILjava/lang/Object;II)V"), (148, .methodref 305 306), (0, .class_ 307), (0, .nameAndType 308 309), (0, u "java/lang/Math"), (0, u "min"), (0, u "(II)I"), (29, .methodref 14 340), (0, .nameAndType 341 342), (0, u "copyOfRangeByte"), (0, u "([BII)[B"), (0, .methodref 14 344), (0, .nameAndType 345 346), (0, u "checkLength"), (0, u "(II)V"), (28, .class_ 376), (0, u "java/util/Arrays$ArrayList"), (68, u "$assertionsDisabled"), (269, u "MIN_ARRAY_SORT_GRAN"), (0, u "I"), (2, u "INSERTIONSORT_THRESHOLD"), (255, .class_ 976), (0, u "java/util/Arrays$ArrayItr")] 52

def k16m0 : Method := { name := "<init>", desc := "()V", sig := { parameters := [], returnType := none }, accessFlags := 2, code := none }
def k16c1 : Code := { maxStack := 4, maxLocals := 2, code := jdk_65_method_131_code, exceptionTable := #[], attributes := #[] }
def k16m1 : Method := { name := "checkLength", desc := "(II)V", sig := { parameters := [.int, .int], returnType := none }, accessFlags := 10, code := some k16c1 }
def k16c2 : Code := { maxStack := 3, maxLocals := 3, code := jdk_65_method_132_code, exceptionTable := #[], attributes := #[] }
def k16m2 : Method := { name := "copyOfRange", desc := "([BII)[B", sig := { parameters := [(.array .byte), .int, .int], returnType := some (.array .byte) }, accessFlags := 9, code := some k16c2 }
def k16c3 : Code := { maxStack := 6, maxLocals := 5, code := jdk_65_method_133_code, exceptionTable := #[], attributes := #[] }
def k16m3 : Method := { name := "copyOfRangeByte", desc := "([BII)[B", sig := { parameters := [(.array .byte), .int, .int], returnType := some (.array .byte) }, accessFlags := 10, code := some k16c3 }
/-- java/util/Arrays -/
def k16 : Class := { plain "java/util/Arrays" (some 0) with
  accessFlags := 49
  interfaces := #[]
  cf := some (fileOf pool16 14 #[.nestMembers #[975, 375, 113, 74]] #[{ accessFlags := 2, nameIndex := 5, descriptorIndex := 6, attributes := #[] }, { accessFlags := 10, nameIndex := 345, descriptorIndex := 346, attributes := #[] }, { accessFlags := 9, nameIndex := 139, descriptorIndex := 342, attributes := #[] }, { accessFlags := 10, nameIndex := 341, descriptorIndex := 342, attributes := #[] }] 49 2 #[] #[{ accessFlags := 26, nameIndex := 715, descriptorIndex := 716, attributes := #[] }, { accessFlags := 26, nameIndex := 719, descriptorIndex := 716, attributes := #[] }, { accessFlags := 4120, nameIndex := 445, descriptorIndex := 117, attributes := #[] }])
  fields := #[{ name := "MIN_ARRAY_SORT_GRAN", type := .int, accessFlags := 26, slot := 0, constantValue := 0 }, { name := "INSERTIONSORT_THRESHOLD", type := .int, accessFlags := 26, slot := 1, constantValue := 0 }, { name := "$assertionsDisabled", type := .boolean, accessFlags := 4120, slot := 2, constantValue := 0 }]
  methods := #[k16m0, k16m1, k16m2, k16m3]
  instanceTypes := #[]
  staticTypes := #[.int, .int, .boolean]
  resolved := Array.replicate 1029 none
  statics := none }

def pool17 : Array CpInfo := pool [(1, .class_ 2), (0, u "java/lang/Math"), (1, .class_ 6), (1, u "java/lang/Object"), (0, u "<init>"), (0, u "()V"), (89, .class_ 100), (1, u "java/lang/Math$RandomNumberGeneratorHolder"), (71, u "negativeZeroFloatBits"), (0, u "J"), (2, u "negativeZeroDoubleBits"), (24, u "min"), (43, u "$assertionsDisabled"), (0, u "Z"), (88, u "(II)I"), (2, u "twoToTheDoubleScaleDown"), (0, u "D"), (4, u "twoToTheDoubleScaleUp"), (9, u "E"), (3, u "PI"), (2, u "TAU"), (2, u "DEGREES_TO_RADIANS"), (0, u "RADIANS_TO_DEGREES")] 94

def k17m0 : Method := { name := "<init>", desc := "()V", sig := { parameters := [], returnType := none }, accessFlags := 2, code := none }
def k17c1 : Code := { maxStack := 2, maxLocals := 2, code := jdk_29_method_69_code, exceptionTable := #[], attributes := #[] }
def k17m1 : Method := { name := "min", desc := "(II)I", sig := { parameters := [.int, .int], returnType := some .int }, accessFlags := 9, code := some k17c1 }
/-- java/lang/Math -/
def k17 : Class := { plain "java/lang/Math" (some 0) with
  accessFlags := 49
  interfaces := #[]
  cf := some (fileOf pool17 1 #[.nestMembers #[98]] #[{ accessFlags := 2, nameIndex := 7, descriptorIndex := 8, attributes := #[] }, { accessFlags := 9, nameIndex := 201, descriptorIndex := 335, attributes := #[] }] 49 4 #[] #[{ accessFlags := 25, nameIndex := 354, descriptorIndex := 339, attributes := #[] }, { accessFlags := 25, nameIndex := 358, descriptorIndex := 339, attributes := #[] }, { accessFlags := 25, nameIndex := 361, descriptorIndex := 339, attributes := #[] }, { accessFlags := 26, nameIndex := 364, descriptorIndex := 339, attributes := #[] }, { accessFlags := 26, nameIndex := 365, descriptorIndex := 339, attributes := #[] }, { accessFlags := 26, nameIndex := 172, descriptorIndex := 173, attributes := #[] }, { accessFlags := 26, nameIndex := 176, descriptorIndex := 173, attributes := #[] }, { accessFlags := 8, nameIndex := 344, descriptorIndex := 339, attributes := #[] }, { accessFlags := 8, nameIndex := 338, descriptorIndex := 339, attributes := #[] }, { accessFlags := 4120, nameIndex := 245, descriptorIndex := 246, attributes := #[] }])
  fields := #[{ name := "E", type := .double, accessFlags := 25, slot := 0, constantValue := 0 }, { name := "PI", type := .double, accessFlags := 25, slot := 1, constantValue := 0 }, { name := "TAU", type := .double, accessFlags := 25, slot := 2, constantValue := 0 }, { name := "DEGREES_TO_RADIANS", type := .double, accessFlags := 26, slot := 3, constantValue := 0 }, { name := "RADIANS_TO_DEGREES", type := .double, accessFlags := 26, slot := 4, constantValue := 0 }, { name := "negativeZeroFloatBits", type := .long, accessFlags := 26, slot := 5, constantValue := 0 }, { name := "negativeZeroDoubleBits", type := .long, accessFlags := 26, slot := 6, constantValue := 0 }, { name := "twoToTheDoubleScaleUp", type := .double, accessFlags := 8, slot := 7, constantValue := 0 }, { name := "twoToTheDoubleScaleDown", type := .double, accessFlags := 8, slot := 8, constantValue := 0 }, { name := "$assertionsDisabled", type := .boolean, accessFlags := 4120, slot := 9, constantValue := 0 }]
  methods := #[k17m0, k17m1]
  instanceTypes := #[]
  staticTypes := #[.double, .double, .double, .double, .double, .long, .long, .double, .double, .boolean]
  resolved := Array.replicate 460 none
  statics := none }

def pool18 : Array CpInfo := pool [(4, .class_ 6), (1, u "java/lang/Object"), (0, u "<init>"), (0, u "()V"), (5, .class_ 16), (1, u "java/lang/StringLatin1"), (104, u "$assertionsDisabled"), (0, u "Z"), (98, .class_ 223), (1, u "java/lang/StringLatin1$LinesSpliterator"), (57, u "equals"), (0, u "([B[B)Z"), (107, .class_ 391), (0, u "java/lang/StringLatin1$CharsSpliterator")] 3

def k18m0 : Method := { name := "<init>", desc := "()V", sig := { parameters := [], returnType := none }, accessFlags := 0, code := none }
def k18c1 : Code := { maxStack := 3, maxLocals := 3, code := jdk_43_method_13_code, exceptionTable := #[], attributes := #[] }
def k18m1 : Method := { name := "equals", desc := "([B[B)Z", sig := { parameters := [(.array .byte), (.array .byte)], returnType := some .boolean }, accessFlags := 9, code := some k18c1 }
/-- java/lang/StringLatin1 -/
def k18 : Class := { plain "java/lang/StringLatin1" (some 0) with
  accessFlags := 48
  interfaces := #[]
  cf := some (fileOf pool18 14 #[.nestMembers #[390, 221]] #[{ accessFlags := 0, nameIndex := 7, descriptorIndex := 8, attributes := #[] }, { accessFlags := 9, nameIndex := 281, descriptorIndex := 282, attributes := #[] }] 48 4 #[] #[{ accessFlags := 4120, nameIndex := 121, descriptorIndex := 122, attributes := #[] }])
  fields := #[{ name := "$assertionsDisabled", type := .boolean, accessFlags := 4120, slot := 0, constantValue := 0 }]
  methods := #[k18m0, k18m1]
  instanceTypes := #[]
  staticTypes := #[.boolean]
  resolved := Array.replicate 395 none
  statics := none }

def pool19 : Array CpInfo := pool [(2, .class_ 4), (1, u "java/lang/Object"), (0, u "<init>"), (0, u "()V"), (17, .class_ 26), (1, u "jdk/internal/util/Preconditions"), (28, .class_ 56), (0, u "jdk/internal/util/Preconditions$4"), (57, .class_ 115), (0, u "jdk/internal/util/Preconditions$1"), (7, u "SIOOBE_FORMATTER"), (0, u "Ljava/util/function/BiFunction;"), (0, .class_ 126), (0, u "jdk/internal/util/Preconditions$2"), (3, u "AIOOBE_FORMATTER"), (0, .class_ 132), (0, u "jdk/internal/util/Preconditions$3"), (3, u "IOOBE_FORMATTER")] 57

def k19m0 : Method := { name := "<init>", desc := "()V", sig := { parameters := [], returnType := none }, accessFlags := 1, code := none }
/-- jdk/internal/util/Preconditions -/
def k19 : Class := { plain "jdk/internal/util/Preconditions" (some 0) with
  accessFlags := 33
  interfaces := #[]
  cf := some (fileOf pool19 24 #[.nestMembers #[55, 131, 125, 114]] #[{ accessFlags := 1, nameIndex := 5, descriptorIndex := 6, attributes := #[] }] 33 2 #[] #[{ accessFlags := 25, nameIndex := 123, descriptorIndex := 124, attributes := #[] }, { accessFlags := 25, nameIndex := 130, descriptorIndex := 124, attributes := #[] }, { accessFlags := 25, nameIndex := 136, descriptorIndex := 124, attributes := #[] }])
  fields := #[{ name := "SIOOBE_FORMATTER", type := (.object "java/util/function/BiFunction"), accessFlags := 25, slot := 0, constantValue := 0 }, { name := "AIOOBE_FORMATTER", type := (.object "java/util/function/BiFunction"), accessFlags := 25, slot := 1, constantValue := 0 }, { name := "IOOBE_FORMATTER", type := (.object "java/util/function/BiFunction"), accessFlags := 25, slot := 2, constantValue := 0 }]
  methods := #[k19m0]
  instanceTypes := #[]
  staticTypes := #[(.object "java/util/function/BiFunction"), (.object "java/util/function/BiFunction"), (.object "java/util/function/BiFunction")]
  resolved := Array.replicate 194 none
  statics := some 2 }

def pool20 : Array CpInfo := pool [(9, u "<init>"), (6, .class_ 18), (1, u "java/lang/Object"), (0, u "()V"), (1, .class_ 23), (1, u "jdk/internal/util/ArraysSupport"), (0, u "LOG2_ARRAY_LONG_INDEX_SCALE"), (0, u "I"), (2, u "U"), (0, u "Ljdk/internal/misc/Unsafe;"), (8, u "BIG_ENDIAN"), (0, u "Z"), (8, u "LOG2_BYTE_BIT_SIZE"), (4, u "LOG2_ARRAY_INT_INDEX_SCALE"), (54, u "JLA"), (0, u "Ljdk/internal/access/JavaLangAccess;"), (11, u "LOG2_ARRAY_BOOLEAN_INDEX_SCALE"), (9, u "LOG2_ARRAY_BYTE_INDEX_SCALE"), (5, u "LOG2_ARRAY_CHAR_INDEX_SCALE"), (5, u "LOG2_ARRAY_SHORT_INDEX_SCALE"), (18, u "LOG2_ARRAY_FLOAT_INDEX_SCALE"), (24, u "LOG2_ARRAY_DOUBLE_INDEX_SCALE"), (89, u "T_BOOLEAN"), (2, u "T_CHAR"), (1, u "T_FLOAT"), (1, u "T_DOUBLE"), (1, u "T_BYTE"), (1, u "T_SHORT"), (1, u "T_INT"), (1, u "T_LONG"), (1, u "SOFT_MAX_ARRAY_LENGTH")] 83

def k20m0 : Method := { name := "<init>", desc := "()V", sig := { parameters := [], returnType := none }, accessFlags := 2, code := none }
/-- jdk/internal/util/ArraysSupport -/
def k20 : Class := { plain "jdk/internal/util/ArraysSupport" (some 0) with
  accessFlags := 33
  interfaces := #[]
  cf := some (fileOf pool20 21 #[] #[{ accessFlags := 2, nameIndex := 9, descriptorIndex := 19, attributes := #[] }] 33 16 #[] #[{ accessFlags := 24, nameIndex := 28, descriptorIndex := 29, attributes := #[] }, { accessFlags := 26, nameIndex := 38, descriptorIndex := 39, attributes := #[] }, { accessFlags := 25, nameIndex := 121, descriptorIndex := 25, attributes := #[] }, { accessFlags := 25, nameIndex := 131, descriptorIndex := 25, attributes := #[] }, { accessFlags := 25, nameIndex := 137, descriptorIndex := 25, attributes := #[] }, { accessFlags := 25, nameIndex := 143, descriptorIndex := 25, attributes := #[] }, { accessFlags := 25, nameIndex := 53, descriptorIndex := 25, attributes := #[] }, { accessFlags := 25, nameIndex := 24, descriptorIndex := 25, attributes := #[] }, { accessFlags := 25, nameIndex := 162, descriptorIndex := 25, attributes := #[] }, { accessFlags := 25, nameIndex := 187, descriptorIndex := 25, attributes := #[] }, { accessFlags := 26, nameIndex := 48, descriptorIndex := 25, attributes := #[] }, { accessFlags := 25, nameIndex := 277, descriptorIndex := 25, attributes := #[] }, { accessFlags := 25, nameIndex := 280, descriptorIndex := 25, attributes := #[] }, { accessFlags := 25, nameIndex := 282, descriptorIndex := 25, attributes := #[] }, { accessFlags := 25, nameIndex := 284, descriptorIndex := 25, attributes := #[] }, { accessFlags := 25, nameIndex := 286, descriptorIndex := 25, attributes := #[] }, { accessFlags := 25, nameIndex := 288, descriptorIndex := 25, attributes := #[] }, { accessFlags := 25, nameIndex := 290, descriptorIndex := 25, attributes := #[] }, { accessFlags := 25, nameIndex := 292, descriptorIndex := 25, attributes := #[] }, { accessFlags := 26, nameIndex := 108, descriptorIndex := 109, attributes := #[] }, { accessFlags := 25, nameIndex := 294, descriptorIndex := 25, attributes := #[] }])
  fields := #[{ name := "U", type := (.object "jdk/internal/misc/Unsafe"), accessFlags := 24, slot := 0, constantValue := 0 }, { name := "BIG_ENDIAN", type := .boolean, accessFlags := 26, slot := 1, constantValue := 0 }, { name := "LOG2_ARRAY_BOOLEAN_INDEX_SCALE", type := .int, accessFlags := 25, slot := 2, constantValue := 0 }, { name := "LOG2_ARRAY_BYTE_INDEX_SCALE", type := .int, accessFlags := 25, slot := 3, constantValue := 0 }, { name := "LOG2_ARRAY_CHAR_INDEX_SCALE", type := .int, accessFlags := 25, slot := 4, constantValue := 0 }, { name := "LOG2_ARRAY_SHORT_INDEX_SCALE", type := .int, accessFlags := 25, slot := 5, constantValue := 0 }, { name := "LOG2_ARRAY_INT_INDEX_SCALE", type := .int, accessFlags := 25, slot := 6, constantValue := 0 }, { name := "LOG2_ARRAY_LONG_INDEX_SCALE", type := .int, accessFlags := 25, slot := 7, constantValue := 0 }, { name := "LOG2_ARRAY_FLOAT_INDEX_SCALE", type := .int, accessFlags := 25, slot := 8, constantValue := 0 }, { name := "LOG2_ARRAY_DOUBLE_INDEX_SCALE", type := .int, accessFlags := 25, slot := 9, constantValue := 0 }, { name := "LOG2_BYTE_BIT_SIZE", type := .int, accessFlags := 26, slot := 10, constantValue := 0 }, { name := "T_BOOLEAN", type := .int, accessFlags := 25, slot := 11, constantValue := 0 }, { name := "T_CHAR", type := .int, accessFlags := 25, slot := 12, constantValue := 0 }, { name := "T_FLOAT", type := .int, accessFlags := 25, slot := 13, constantValue := 0 }, { name := "T_DOUBLE", type := .int, accessFlags := 25, slot := 14, constantValue := 0 }, { name := "T_BYTE", type := .int, accessFlags := 25, slot := 15, constantValue := 0 }, { name := "T_SHORT", type := .int, accessFlags := 25, slot := 16, constantValue := 0 }, { name := "T_INT", type := .int, accessFlags := 25, slot := 17, constantValue := 0 }, { name := "T_LONG", type := .int, accessFlags := 25, slot := 18, constantValue := 0 }, { name := "JLA", type := (.object "jdk/internal/access/JavaLangAccess"), accessFlags := 26, slot := 19, constantValue := 0 }, { name := "SOFT_MAX_ARRAY_LENGTH", type := .int, accessFlags := 25, slot := 20, constantValue := 0 }]
  methods := #[k20m0]
  instanceTypes := #[]
  staticTypes := #[(.object "jdk/internal/misc/Unsafe"), .boolean, .int, .int, .int, .int, .int, .int, .int, .int, .int, .int, .int, .int, .int, .int, .int, .int, .int, (.object "jdk/internal/access/JavaLangAccess"), .int]
  resolved := Array.replicate 378 none
  statics := none }

def pool21 : Array CpInfo := pool [(2, .class_ 4), (1, u "java/lang/Object"), (0, u "<init>"), (0, u "()V"), (12, .class_ 20), (0, u "java/util/Collections"), (63, u "r"), (0, u "Ljava/util/Random;"), (80, .class_ 167), (0, u "java/util/Collections$UnmodifiableCollection"), (6, .class_ 175), (0, u "java/util/Collections$UnmodifiableSequencedCollection"), (6, .class_ 183), (0, u "java/util/Collections$UnmodifiableSet"), (6, .class_ 191), (0, u "java/util/Collections$UnmodifiableSequencedSet"), (6, .class_ 199), (0, u "java/util/Collections$UnmodifiableSortedSet"), (6, .class_ 207), (0, u "java/util/Collections$UnmodifiableNavigableSet"), (4, .class_ 213), (0, u "java/util/Collections$UnmodifiableList"), (1, .class_ 216), (0, u "java/util/Collections$UnmodifiableRandomAccessList"), (6, .class_ 224), (0, u "java/util/Collections$UnmodifiableMap"), (6, .class_ 232), (0, u "java/util/Collections$UnmodifiableSequencedMap"), (4, .class_ 238), (0, u "java/util/Collections$UnmodifiableSortedMap"), (6, .class_ 246), (0, u "java/util/Collections$UnmodifiableNavigableMap"), (3, .class_ 251), (0, u "java/util/Collections$SynchronizedCollection"), (4, .class_ 257), (0, u "java/util/Collections$SynchronizedSet"), (4, .class_ 263), (0, u "java/util/Collections$SynchronizedSortedSet"), (1, .class_ 266), (0, u "java/util/Collections$SynchronizedNavigableSet"), (1, .class_ 269), (0, u "java/util/Collections$SynchronizedRandomAccessList"), (1, .class_ 272), (0, u "java/util/Collections$SynchronizedList"), (5, .class_ 279), (0, u "java/util/Collections$SynchronizedMap"), (1, .class_ 282), (0, u "java/util/Collections$SynchronizedSortedMap"), (1, .class_ 285), (0, u "java/util/Collections$SynchronizedNavigableMap"), (1, .class_ 288), (0, u "java/util/Collections$CheckedCollection"), (11, .class_ 301), (0, u "java/util/Collections$CheckedQueue"), (3, .class_ 306), (0, u "java/util/Collections$CheckedSet"), (3, .class_ 311), (0, u "java/util/Collections$CheckedSortedSet"), (3, .class_ 316), (0, u "java/util/Collections$CheckedNavigableSet"), (3, .class_ 321), (0, u "java/util/Collections$CheckedRandomAccessList"), (3, .class_ 326), (0, u "java/util/Collections$CheckedList"), (1, .class_ 329), (0, u "java/util/Collections$CheckedMap"), (3, .class_ 334), (0, u "java/util/Collections$CheckedSortedMap"), (3, .class_ 339), (0, u "java/util/Collections$CheckedNavigableMap"), (4, .class_ 346), (1, u "java/util/Collections$EmptyIterator"), (3, .class_ 352), (1, u "java/util/Collections$EmptyListIterator"), (2, .class_ 357), (1, u "java/util/Collections$EmptyEnumeration"), (4, u "EMPTY_SET"), (0, u "Ljava/util/Set;"), (6, u "EMPTY_LIST"), (0, u "Ljava/util/List;"), (2, u "EMPTY_MAP"), (0, u "Ljava/util/Map;"), (4, .class_ 381), (0, u "java/util/Collections$SingletonSet"), (2, .class_ 385), (0, u "java/util/Collections$1"), (1, .class_ 388), (0, u "java/util/Collections$2"), (1, .class_ 391), (0, u "java/util/Collections$SingletonList"), (1, .class_ 394), (0, u "java/util/Collections$SingletonMap"), (22, .class_ 418), (0, u "java/util/Collections$CopiesList"), (4, .class_ 425), (1, u "java/util/Collections$ReverseComparator"), (8, .class_ 435), (0, u "java/util/Collections$ReverseComparator2"), (6, .class_ 443), (0, u "java/util/Collections$3"), (25, .class_ 470), (0, u "java/util/Collections$SetFromMap"), (2, .class_ 474), (0, u "java/util/Collections$SequencedSetFromMap"), (3, .class_ 479), (0, u "java/util/Collections$AsLIFOQueue"), (11, .class_ 492), (0, u "java/util/Collections$EmptySet"), (1, .class_ 495), (0, u "java/util/Collections$EmptyList"), (1, .class_ 498), (0, u "java/util/Collections$EmptyMap"), (1, u "BINARYSEARCH_THRESHOLD"), (0, u "I"), (2, u "REVERSE_THRESHOLD"), (1, u "SHUFFLE_THRESHOLD"), (1, u "FILL_THRESHOLD"), (1, u "ROTATE_THRESHOLD"), (1, u "COPY_THRESHOLD"), (1, u "REPLACEALL_THRESHOLD"), (1, u "INDEXOFSUBLIST_THRESHOLD"), (333, .class_ 851), (0, u "java/util/Collections$CheckedMap$CheckedEntrySet"), (0, .class_ 853), (0, u "java/util/Collections$CheckedMap$CheckedEntrySet$CheckedEntry"), (0, .class_ 855), (0, u "java/util/Collections$CheckedMap$CheckedEntrySet$1"), (0, .class_ 857), (0, u "java/util/Collections$CheckedList$1"), (0, .class_ 859), (0, u "java/util/Collections$CheckedCollection$1"), (0, .class_ 861), (0, u "java/util/Collections$UnmodifiableNavigableMap$EmptyNavigableMap"), (0, .class_ 863), (0, u "java/util/Collections$UnmodifiableMap$UnmodifiableEntrySet"), (0, .class_ 865), (0, u "java/util/Collections$UnmodifiableMap$UnmodifiableEntrySet$UnmodifiableEntry"), (0, .class_ 867), (0, u "java/util/Collections$UnmodifiableMap$UnmodifiableEntrySet$UnmodifiableEntrySetSpliterator"), (0, .class_ 869), (0, u "java/util/Collections$UnmodifiableMap$UnmodifiableEntrySet$1"), (0, .class_ 871), (0, u "java/util/Collections$UnmodifiableList$1"), (0, .class_ 873), (0, u "java/util/Collections$UnmodifiableNavigableSet$EmptyNavigableSet"), (0, .class_ 875), (0, u "java/util/Collections$UnmodifiableCollection$1")] 57

def k21m0 : Method := { name := "<init>", desc := "()V", sig := { parameters := [], returnType := none }, accessFlags := 2, code := none }
/-- java/util/Collections -/
def k21 : Class := { plain "java/util/Collections" (some 0) with
  accessFlags := 33
  interfaces := #[]
  cf := some (fileOf pool21 19 #[.nestMembers #[478, 473, 469, 434, 423, 417, 393, 390, 380, 497, 494, 491, 355, 350, 344, 338, 333, 328, 850, 852, 854, 320, 325, 856, 315, 310, 305, 300, 287, 858, 284, 281, 278, 268, 271, 265, 262, 256, 250, 245, 860, 237, 231, 223, 862, 864, 866, 868, 215, 212, 870, 206, 872, 198, 190, 182, 174, 166, 874, 442, 387, 384]] #[{ accessFlags := 2, nameIndex := 5, descriptorIndex := 6, attributes := #[] }] 33 2 #[] #[{ accessFlags := 26, nameIndex := 500, descriptorIndex := 501, attributes := #[] }, { accessFlags := 26, nameIndex := 504, descriptorIndex := 501, attributes := #[] }, { accessFlags := 26, nameIndex := 506, descriptorIndex := 501, attributes := #[] }, { accessFlags := 26, nameIndex := 508, descriptorIndex := 501, attributes := #[] }, { accessFlags := 26, nameIndex := 510, descriptorIndex := 501, attributes := #[] }, { accessFlags := 26, nameIndex := 512, descriptorIndex := 501, attributes := #[] }, { accessFlags := 26, nameIndex := 514, descriptorIndex := 501, attributes := #[] }, { accessFlags := 26, nameIndex := 516, descriptorIndex := 501, attributes := #[] }, { accessFlags := 10, nameIndex := 84, descriptorIndex := 85, attributes := #[] }, { accessFlags := 25, nameIndex := 362, descriptorIndex := 363, attributes := #[] }, { accessFlags := 25, nameIndex := 370, descriptorIndex := 371, attributes := #[] }, { accessFlags := 25, nameIndex := 374, descriptorIndex := 375, attributes := #[] }])
  fields := #[{ name := "BINARYSEARCH_THRESHOLD", type := .int, accessFlags := 26, slot := 0, constantValue := 0 }, { name := "REVERSE_THRESHOLD", type := .int, accessFlags := 26, slot := 1, constantValue := 0 }, { name := "SHUFFLE_THRESHOLD", type := .int, accessFlags := 26, slot := 2, constantValue := 0 }, { name := "FILL_THRESHOLD", type := .int, accessFlags := 26, slot := 3, constantValue := 0 }, { name := "ROTATE_THRESHOLD", type := .int, accessFlags := 26, slot := 4, constantValue := 0 }, { name := "COPY_THRESHOLD", type := .int, accessFlags := 26, slot := 5, constantValue := 0 }, { name := "REPLACEALL_THRESHOLD", type := .int, accessFlags := 26, slot := 6, constantValue := 0 }, { name := "INDEXOFSUBLIST_THRESHOLD", type := .int, accessFlags := 26, slot := 7, constantValue := 0 }, { name := "r", type := (.object "java/util/Random"), accessFlags := 10, slot := 8, constantValue := 0 }, { name := "EMPTY_SET", type := (.object "java/util/Set"), accessFlags := 25, slot := 9, constantValue := 0 }, { name := "EMPTY_LIST", type := (.object "java/util/List"), accessFlags := 25, slot := 10, constantValue := 0 }, { name := "EMPTY_MAP", type := (.object "java/util/Map"), accessFlags := 25, slot := 11, constantValue := 0 }]
  methods := #[k21m0]
  instanceTypes := #[]
  staticTypes := #[.int, .int, .int, .int, .int, .int, .int, .int, (.object "java/util/Random"), (.object "java/util/Set"), (.object "java/util/List"), (.object "java/util/Map")]
  resolved := Array.replicate 933 none
  statics := some 3 }

def pool22 : Array CpInfo := pool [(8, .class_ 10), (1, u "java/lang/Iterable"), (24, .class_ 36), (0, u "java/lang/Object")] 25

/-- java/lang/Iterable -/
def k22 : Class := { plain "java/lang/Iterable" (some 0) with
  accessFlags := 1537
  interfaces := #[]
  cf := some (fileOf pool22 8 #[] #[] 1537 35 #[] #[])
  fields := #[]
  methods := #[]
  instanceTypes := #[]
  staticTypes := #[]
  resolved := Array.replicate 62 none
  statics := none }

def pool23 : Array CpInfo := pool [(10, .class_ 12), (1, u "java/util/Collection"), (47, .class_ 61), (0, u "java/lang/Object"), (0, .class_ 63), (0, u "java/lang/Iterable")] 51

/-- java/util/Collection -/
def k23 : Class := { plain "java/util/Collection" (some 0) with
  accessFlags := 1537
  interfaces := #[22]
  cf := some (fileOf pool23 10 #[] #[] 1537 60 #[62] #[])
  fields := #[]
  methods := #[]
  instanceTypes := #[]
  staticTypes := #[]
  resolved := Array.replicate 115 none
  statics := none }

def pool24 : Array CpInfo := pool [(2, .class_ 4), (1, u "java/lang/Object"), (0, u "<init>"), (0, u "()V"), (1, .class_ 10), (1, u "java/util/AbstractCollection"), (66, .class_ 78), (0, u "java/util/Collection")] 81

def k24m0 : Method := { name := "<init>", desc := "()V", sig := { parameters := [], returnType := none }, accessFlags := 4, code := none }
/-- java/util/AbstractCollection -/
def k24 : Class := { plain "java/util/AbstractCollection" (some 0) with
  accessFlags := 1057
  interfaces := #[23]
  cf := some (fileOf pool24 8 #[] #[{ accessFlags := 4, nameIndex := 5, descriptorIndex := 6, attributes := #[] }] 1057 2 #[77] #[])
  fields := #[]
  methods := #[k24m0]
  instanceTypes := #[]
  staticTypes := #[]
  resolved := Array.replicate 160 none
  statics := none }

def pool25 : Array CpInfo := pool [(8, .class_ 10), (1, u "java/util/SequencedCollection"), (15, .class_ 27), (0, u "java/lang/Object"), (0, .class_ 29), (0, u "java/util/Collection")] 27

/-- java/util/SequencedCollection -/
def k25 : Class := { plain "java/util/SequencedCollection" (some 0) with
  accessFlags := 1537
  interfaces := #[23]
  cf := some (fileOf pool25 8 #[] #[] 1537 26 #[28] #[])
  fields := #[]
  methods := #[]
  instanceTypes := #[]
  staticTypes := #[]
  resolved := Array.replicate 57 none
  statics := none }

def pool26 : Array CpInfo := pool [(8, .class_ 10), (1, u "java/util/List"), (92, .class_ 104), (0, u "java/lang/Object"), (15, .class_ 121), (0, u "java/util/SequencedCollection")] 129

/-- java/util/List -/
def k26 : Class := { plain "java/util/List" (some 0) with
  accessFlags := 1537
  interfaces := #[25]
  cf := some (fileOf pool26 8 #[] #[] 1537 103 #[120] #[])
  fields := #[]
  methods := #[]
  instanceTypes := #[]
  staticTypes := #[]
  resolved := Array.replicate 251 none
  statics := none }

def pool27 : Array CpInfo := pool [(2, .class_ 4), (1, u "java/util/AbstractCollection"), (0, u "<init>"), (0, u "()V"), (1, .class_ 10), (1, u "java/util/AbstractList"), (0, u "modCount"), (0, u "I"), (64, .class_ 78), (0, u "java/util/AbstractList$Itr"), (3, .class_ 83), (0, u "java/util/AbstractList$ListItr"), (9, .class_ 94), (0, u "java/util/AbstractList$RandomAccessSubList"), (3, .class_ 99), (0, u "java/util/AbstractList$SubList"), (33, .class_ 134), (0, u "java/util/List"), (73, .class_ 209), (0, u "java/util/AbstractList$SubList$1"), (0, .class_ 211), (0, u "java/util/AbstractList$RandomAccessSpliterator")] 6

def k27m0 : Method := { name := "<init>", desc := "()V", sig := { parameters := [], returnType := none }, accessFlags := 4, code := none }
/-- java/util/AbstractList -/
def k27 : Class := { plain "java/util/AbstractList" (some 24) with
  accessFlags := 1057
  interfaces := #[26]
  cf := some (fileOf pool27 8 #[.nestMembers #[93, 98, 208, 210, 82, 77]] #[{ accessFlags := 4, nameIndex := 5, descriptorIndex := 6, attributes := #[] }] 1057 2 #[133] #[{ accessFlags := 132, nameIndex := 11, descriptorIndex := 12, attributes := #[] }])
  fields := #[{ name := "modCount", type := .int, accessFlags := 132, slot := 0, constantValue := 0 }]
  methods := #[k27m0]
  instanceTypes := #[.int]
  staticTypes := #[]
  resolved := Array.replicate 218 none
  statics := none }

def pool28 : Array CpInfo := pool [(1, .class_ 2), (0, u "java/util/RandomAccess"), (0, .class_ 4), (0, u "java/lang/Object")] 2

/-- java/util/RandomAccess -/
def k28 : Class := { plain "java/util/RandomAccess" (some 0) with
  accessFlags := 1537
  interfaces := #[]
  cf := some (fileOf pool28 1 #[] #[] 1537 3 #[] #[])
  fields := #[]
  methods := #[]
  instanceTypes := #[]
  staticTypes := #[]
  resolved := Array.replicate 7 none
  statics := none }

def pool29 : Array CpInfo := pool [(2, .class_ 4), (1, u "java/util/AbstractList"), (0, u "<init>"), (0, u "()V"), (1, .class_ 10), (1, u "java/util/Collections"), (54, .class_ 66), (0, u "java/util/Collections$EmptyList"), (0, .class_ 68), (0, u "java/util/RandomAccess"), (0, .class_ 70), (0, u "java/io/Serializable"), (0, u "serialVersionUID"), (0, u "J")] 77

def k29m0 : Method := { name := "<init>", desc := "()V", sig := { parameters := [], returnType := none }, accessFlags := 2, code := none }
/-- java/util/Collections$EmptyList -/
def k29 : Class := { plain "java/util/Collections$EmptyList" (some 27) with
  accessFlags := 32
  interfaces := #[28, 2]
  cf := some (fileOf pool29 65 #[.nestHost 8] #[{ accessFlags := 2, nameIndex := 5, descriptorIndex := 6, attributes := #[] }] 32 2 #[67, 69] #[{ accessFlags := 26, nameIndex := 71, descriptorIndex := 72, attributes := #[] }])
  fields := #[{ name := "serialVersionUID", type := .long, accessFlags := 26, slot := 0, constantValue := 0 }]
  methods := #[k29m0]
  instanceTypes := #[.int]
  staticTypes := #[.long]
  resolved := Array.replicate 150 none
  statics := none }

def pool30 : Array CpInfo := pool [(2, .class_ 4), (1, u "java/lang/StackTraceElement"), (0, u "<init>"), (2, .class_ 10), (1, u "java/lang/Object"), (0, u "()V"), (2, u "format"), (0, u "B"), (2, u "classLoaderName"), (0, u "Ljava/lang/String;"), (2, u "moduleName"), (2, u "moduleVersion"), (12, u "declaringClass"), (4, u "methodName"), (2, u "fileName"), (2, u "lineNumber"), (0, u "I"), (65, u "declaringClassObject"), (0, u "Ljava/lang/Class;"), (33, .class_ 153), (1, u "java/lang/StackTraceElement$HashedModules"), (17, .class_ 172), (0, u "java/io/Serializable"), (0, u "NATIVE_METHOD"), (1, u "UNKNOWN_SOURCE"), (2, u "BUILTIN_CLASS_LOADER"), (1, u "JDK_NON_UPGRADEABLE_MODULE"), (1, u "serialVersionUID"), (0, u "J")] 51

def k30m0 : Method := { name := "<init>", desc := "()V", sig := { parameters := [], returnType := none }, accessFlags := 2, code := none }
/-- java/lang/StackTraceElement -/
def k30 : Class := { plain "java/lang/StackTraceElement" (some 0) with
  accessFlags := 49
  interfaces := #[2]
  cf := some (fileOf pool30 2 #[.nestMembers #[151]] #[{ accessFlags := 2, nameIndex := 5, descriptorIndex := 11, attributes := #[] }] 49 8 #[171] #[{ accessFlags := 26, nameIndex := 173, descriptorIndex := 19, attributes := #[] }, { accessFlags := 26, nameIndex := 175, descriptorIndex := 19, attributes := #[] }, { accessFlags := 130, nameIndex := 116, descriptorIndex := 117, attributes := #[] }, { accessFlags := 2, nameIndex := 18, descriptorIndex := 19, attributes := #[] }, { accessFlags := 2, nameIndex := 22, descriptorIndex := 19, attributes := #[] }, { accessFlags := 2, nameIndex := 25, descriptorIndex := 19, attributes := #[] }, { accessFlags := 2, nameIndex := 38, descriptorIndex := 19, attributes := #[] }, { accessFlags := 2, nameIndex := 43, descriptorIndex := 19, attributes := #[] }, { accessFlags := 2, nameIndex := 46, descriptorIndex := 19, attributes := #[] }, { accessFlags := 2, nameIndex := 49, descriptorIndex := 50, attributes := #[] }, { accessFlags := 2, nameIndex := 14, descriptorIndex := 15, attributes := #[] }, { accessFlags := 26, nameIndex := 178, descriptorIndex := 15, attributes := #[] }, { accessFlags := 26, nameIndex := 180, descriptorIndex := 15, attributes := #[] }, { accessFlags := 26, nameIndex := 182, descriptorIndex := 183, attributes := #[] }])
  fields := #[{ name := "NATIVE_METHOD", type := (.object "java/lang/String"), accessFlags := 26, slot := 0, constantValue := 0 }, { name := "UNKNOWN_SOURCE", type := (.object "java/lang/String"), accessFlags := 26, slot := 1, constantValue := 0 }, { name := "declaringClassObject", type := (.object "java/lang/Class"), accessFlags := 130, slot := 0, constantValue := 0 }, { name := "classLoaderName", type := (.object "java/lang/String"), accessFlags := 2, slot := 1, constantValue := 0 }, { name := "moduleName", type := (.object "java/lang/String"), accessFlags := 2, slot := 2, constantValue := 0 }, { name := "moduleVersion", type := (.object "java/lang/String"), accessFlags := 2, slot := 3, constantValue := 0 }, { name := "declaringClass", type := (.object "java/lang/String"), accessFlags := 2, slot := 4, constantValue := 0 }, { name := "methodName", type := (.object "java/lang/String"), accessFlags := 2, slot := 5, constantValue := 0 }, { name := "fileName", type := (.object "java/lang/String"), accessFlags := 2, slot := 6, constantValue := 0 }, { name := "lineNumber", type := .int, accessFlags := 2, slot := 7, constantValue := 0 }, { name := "format", type := .byte, accessFlags := 2, slot := 8, constantValue := 0 }, { name := "BUILTIN_CLASS_LOADER", type := .byte, accessFlags := 26, slot := 2, constantValue := 0 }, { name := "JDK_NON_UPGRADEABLE_MODULE", type := .byte, accessFlags := 26, slot := 3, constantValue := 0 }, { name := "serialVersionUID", type := .long, accessFlags := 26, slot := 4, constantValue := 0 }]
  methods := #[k30m0]
  instanceTypes := #[(.object "java/lang/Class"), (.object "java/lang/String"), (.object "java/lang/String"), (.object "java/lang/String"), (.object "java/lang/String"), (.object "java/lang/String"), (.object "java/lang/String"), .int, .byte]
  staticTypes := #[(.object "java/lang/String"), (.object "java/lang/String"), .byte, .byte, .long]
  resolved := Array.replicate 235 none
  statics := none }

def pool31 : Array CpInfo := pool [(1, u "java/lang/Cloneable"), (0, .class_ 1), (0, u "java/lang/Object"), (0, .class_ 3)] 3

/-- java/lang/Cloneable -/
def k31 : Class := { plain "java/lang/Cloneable" (some 0) with
  accessFlags := 1537
  interfaces := #[]
  cf := some (fileOf pool31 2 #[] #[] 1537 4 #[] #[])
  fields := #[]
  methods := #[]
  instanceTypes := #[]
  staticTypes := #[]
  resolved := Array.replicate 8 none
  statics := none }

/-- the primitive byte -/
def k32 : Class := { plain "byte" none with kind := .primitive 'B', accessFlags := 0x411 }
/-- [B -/
def k33 : Class := { plain "[B" (some 0) with kind := .array 32 .byte, interfaces := #[31, 2], accessFlags := 1041 }

/-- the primitive char -/
def k34 : Class := { plain "char" none with kind := .primitive 'C', accessFlags := 0x411 }
/-- [C -/
def k35 : Class := { plain "[C" (some 0) with kind := .array 34 .char, interfaces := #[31, 2], accessFlags := 1041 }

/-- the primitive int -/
def k36 : Class := { plain "int" none with kind := .primitive 'I', accessFlags := 0x411 }
/-- [I -/
def k37 : Class := { plain "[I" (some 0) with kind := .array 36 .int, interfaces := #[31, 2], accessFlags := 1041 }

/-- [Ljava/lang/Object; -/
def k38 : Class := { plain "[Ljava/lang/Object;" (some 0) with kind := .array 0 (.object "java/lang/Object"), interfaces := #[31, 2], accessFlags := 1041 }

/-- [Ljava/lang/StackTraceElement; -/
def k39 : Class := { plain "[Ljava/lang/StackTraceElement;" (some 0) with kind := .array 30 (.object "java/lang/StackTraceElement"), interfaces := #[31, 2], accessFlags := 1041 }

/-- [Ljava/lang/Throwable; -/
def k40 : Class := { plain "[Ljava/lang/Throwable;" (some 0) with kind := .array 9 (.object "java/lang/Throwable"), interfaces := #[31, 2], accessFlags := 1041 }

def heap : Heap := #[{ cls := 7, slots := #[.long 0, .int 1, .null, .int 0, .null, .int 0, .int 0], vm := .statics 7 },
  { cls := 9, slots := #[.long 0, .ref 4, .ref 5, .null, .null, .null, .null, .ref 6, .int 1], vm := .statics 9 },
  { cls := 19, slots := #[.null, .null, .null], vm := .statics 19 },
  { cls := 21, slots := #[.int 0, .int 0, .int 0, .int 0, .int 0, .int 0, .int 0, .int 0, .null, .null, .ref 5, .null], vm := .statics 21 },
  { cls := 39, slots := #[], vm := .none },
  { cls := 29, slots := #[.int 0], vm := .none },
  { cls := 40, slots := #[], vm := .none }]
def classes : Array Class := #[k0, k1, k2, k3, k4, k5, k6, k7, k8, k9, k10, k11, k12, k13, k14, k15, k16, k17, k18, k19, k20, k21, k22, k23, k24, k25, k26, k27, k28, k29, k30, k31, k32, k33, k34, k35, k36, k37, k38, k39, k40]
def interned : List (Array UInt16 × Addr) := []
def slotsUsed : Nat := 32
def theMethod : MethodId := ⟨1, 1⟩
def args0 : Array Value := #[.int 5, .int 5, .int 5, .int 5]
def aboutOver (below : List Frame) : State where
  vm := { classes := classes, interned := interned.toArray }
  heap := heap
  slotsUsed := slotsUsed
  threads := #[{ frames := .invoking theMethod args0 :: below }]
def below0 : List Frame := [.native { method := ⟨0, 0⟩, args := #[] }]
def about1 : State := aboutOver below0
def p0 : Program := .bare "" "" ""
def e0 : Env := launch0.env 0 0 0
theorem w_frames : about1.frames = Frame.invoking theMethod args0 :: below0 := rfl
set_option maxRecDepth 65536 in
theorem w_args : argsFit about1.vm theMethod args0 = true := by decide +kernel
set_option maxRecDepth 65536 in
theorem w_heap : heapFits about1 = true := by decide +kernel
set_option maxRecDepth 65536 in
theorem w_runnable : about1.curStatus? = some .runnable := by decide +kernel
set_option maxRecDepth 65536 in
theorem w_alone : about1.alone = true := by decide +kernel
set_option maxRecDepth 65536 in
theorem w_named : about1.methodNamed? x = some theMethod := by decide +kernel
set_option maxRecDepth 65536 in
theorem w_hears : about1.hears theMethod below0 = true := by decide +kernel
set_option maxRecDepth 65536 in
theorem w_ripe : about1.ripe theMethod args0 below0 = true := by decide +kernel
theorem w_running : about1.status = .running := rfl
set_option maxRecDepth 65536 in
theorem w_room : about1.hasRoom e0.platform room_1 = true :=
  launch0.hasRoom_least _ room_1 (by decide +kernel) (by decide +kernel) (by decide +kernel) (by decide +kernel) (by decide +kernel) (by decide +kernel)
theorem allAtoms_all (ts : List Jvm.Cond) (a : Array Jvm.Value) (st : Jvm.State) : (allAtoms ts).before a st = ts.all (fun c => c.before a st) := by
  induction ts with
  | nil => rfl
  | cons c t ih =>
    show (Jvm.Cond.and c (allAtoms t)).before a st = _
    rw [Jvm.Cond.before_and, ih, List.all_cons]
def words1 : List Jvm.Cond := Jvm.Cond.code x code maxLocals ret :: tables_1
/-- a 'code' word, met by the world's own term for the bytes: nothing is compared byte by byte -/
theorem code_word {y : MethodName} {bytes : ByteArray} {mx : Nat} {rt : Option FieldType} {a : Array Value} {s : State} {m : MethodId} {meth : Method} {c : Code} (h1 : s.methodNamed? y = some m) (h2 : s.vm.method? m = some meth) (h3 : meth.code = some c) (h4 : c.code = bytes)
    (h5 : (c.maxLocals == mx && c.exceptionTable.isEmpty && decide (c.maxStack ≤ mostOperands) && decide (meth.sig.returnType = rt) && !meth.locks && decide (parseMethodDescriptor y.desc = some meth.sig)) = true) : (Jvm.Cond.code y bytes mx rt).before a s = true := by
  simp only [Bool.and_eq_true, beq_iff_eq, Bool.not_eq_true', decide_eq_true_eq] at h5
  obtain ⟨⟨⟨⟨⟨g1, g2⟩, g3⟩, g4⟩, g5⟩, g6⟩ := h5
  simp [Cond.before, Cond.holds, Cond.value, h1, h2, h3, h4, g1, g2, g3, g4, g5, g6]
def isCode : Jvm.Cond → Bool
  | .code _ _ _ _ => true
  | _ => false
theorem all_split {L : List Jvm.Cond} {P : Jvm.Cond → Bool} (h1 : L.all (fun c => isCode c || P c) = true) (h2 : ∀ c ∈ L.filter isCode, P c = true) : L.all P = true := by
  refine List.all_eq_true.mpr fun c hc => ?_
  have h := List.all_eq_true.mp h1 c hc
  rcases Bool.eq_false_or_eq_true (isCode c) with hi | hi
  · exact h2 c (List.mem_filter.mpr ⟨hc, hi⟩)
  · simpa [hi] using h
set_option maxRecDepth 65536 in
theorem w_c0 : (Jvm.Cond.code x code maxLocals ret).before args0 about1 = true := code_word (m := ⟨1, 1⟩) (meth := k1m1) (c := k1c1) (by decide +kernel) rfl rfl rfl (by decide +kernel)
set_option maxRecDepth 65536 in
theorem w_c1 : (Jvm.Cond.code ({ cls := "java/lang/String", name := "<init>", desc := "([C)V" } : Jvm.MethodName) jdk_42_method_3_code (2 : Nat) (Option.none : Option Jvm.ClassFile.FieldType)).before args0 about1 = true := code_word (m := ⟨7, 1⟩) (meth := k7m1) (c := k7c1) (by decide +kernel) rfl rfl rfl (by decide +kernel)
set_option maxRecDepth 65536 in
theorem w_c2 : (Jvm.Cond.code ({ cls := "java/lang/String", name := "<init>", desc := "([CIILjava/lang/Void;)V" } : Jvm.MethodName) jdk_42_method_149_code (6 : Nat) (Option.none : Option Jvm.ClassFile.FieldType)).before args0 about1 = true := code_word (m := ⟨7, 6⟩) (meth := k7m6) (c := k7c6) (by decide +kernel) rfl rfl rfl (by decide +kernel)
set_option maxRecDepth 65536 in
theorem w_c3 : (Jvm.Cond.code ({ cls := "java/lang/Object", name := "<init>", desc := "()V" } : Jvm.MethodName) object_method_1_code (1 : Nat) (Option.none : Option Jvm.ClassFile.FieldType)).before args0 about1 = true := code_word (m := ⟨0, 0⟩) (meth := k0m0) (c := k0c0) (by decide +kernel) rfl rfl rfl (by decide +kernel)
set_option maxRecDepth 65536 in
theorem w_c4 : (Jvm.Cond.code ({ cls := "java/lang/StringUTF16", name := "compress", desc := "([CII)[B" } : Jvm.MethodName) jdk_52_method_16_code (6 : Nat) (Option.some (Jvm.ClassFile.FieldType.array Jvm.ClassFile.FieldType.byte))).before args0 about1 = true := code_word (m := ⟨8, 2⟩) (meth := k8m2) (c := k8c2) (by decide +kernel) rfl rfl rfl (by decide +kernel)
set_option maxRecDepth 65536 in
theorem w_c5 : (Jvm.Cond.code ({ cls := "java/lang/StringUTF16", name := "compress", desc := "([CI[BII)I" } : Jvm.MethodName) jdk_52_method_21_code (7 : Nat) (Option.some Jvm.ClassFile.FieldType.int)).before args0 about1 = true := code_word (m := ⟨8, 3⟩) (meth := k8m3) (c := k8c3) (by decide +kernel) rfl rfl rfl (by decide +kernel)
set_option maxRecDepth 65536 in
theorem w_c6 : (Jvm.Cond.code ({ cls := "java/lang/StringUTF16", name := "coderFromArrayLen", desc := "([BI)B" } : Jvm.MethodName) jdk_52_method_15_code (2 : Nat) (Option.some Jvm.ClassFile.FieldType.byte)).before args0 about1 = true := code_word (m := ⟨8, 1⟩) (meth := k8m1) (c := k8c1) (by decide +kernel) rfl rfl rfl (by decide +kernel)
set_option maxRecDepth 65536 in
theorem w_c7 : (Jvm.Cond.code ({ cls := "com/example/remitter/remitter/ConfigException", name := "atKey", desc := "(Ljava/lang/String;Ljava/lang/String;)Lcom/example/remitter/remitter/ConfigException;" } : Jvm.MethodName) prog_1_method_2_code (2 : Nat) (Option.some (Jvm.ClassFile.FieldType.object "com/example/remitter/remitter/ConfigException"))).before args0 about1 = true := code_word (m := ⟨11, 1⟩) (meth := k11m1) (c := k11c1) (by decide +kernel) rfl rfl rfl (by decide +kernel)
set_option maxRecDepth 65536 in
theorem w_c8 : (Jvm.Cond.code ({ cls := "com/example/remitter/remitter/ConfigException", name := "naming", desc := "(Ljava/lang/String;Ljava/lang/String;)Ljava/lang/String;" } : Jvm.MethodName) prog_1_method_3_code (2 : Nat) (Option.some (Jvm.ClassFile.FieldType.object "java/lang/String"))).before args0 about1 = true := code_word (m := ⟨11, 2⟩) (meth := k11m2) (c := k11c2) (by decide +kernel) rfl rfl rfl (by decide +kernel)
set_option maxRecDepth 65536 in
theorem w_c9 : (Jvm.Cond.code ({ cls := "java/lang/StringBuilder", name := "<init>", desc := "()V" } : Jvm.MethodName) jdk_67_method_1_code (1 : Nat) (Option.none : Option Jvm.ClassFile.FieldType)).before args0 about1 = true := code_word (m := ⟨14, 0⟩) (meth := k14m0) (c := k14c0) (by decide +kernel) rfl rfl rfl (by decide +kernel)
set_option maxRecDepth 65536 in
theorem w_c10 : (Jvm.Cond.code ({ cls := "java/lang/AbstractStringBuilder", name := "<init>", desc := "(I)V" } : Jvm.MethodName) jdk_68_method_2_code (2 : Nat) (Option.none : Option Jvm.ClassFile.FieldType)).before args0 about1 = true := code_word (m := ⟨13, 1⟩) (meth := k13m1) (c := k13c1) (by decide +kernel) rfl rfl rfl (by decide +kernel)
set_option maxRecDepth 65536 in
theorem w_c11 : (Jvm.Cond.code ({ cls := "java/lang/StringBuilder", name := "append", desc := "(Ljava/lang/String;)Ljava/lang/StringBuilder;" } : Jvm.MethodName) jdk_67_method_7_code (2 : Nat) (Option.some (Jvm.ClassFile.FieldType.object "java/lang/StringBuilder"))).before args0 about1 = true := code_word (m := ⟨14, 1⟩) (meth := k14m1) (c := k14c1) (by decide +kernel) rfl rfl rfl (by decide +kernel)
set_option maxRecDepth 65536 in
theorem w_c12 : (Jvm.Cond.code ({ cls := "java/lang/AbstractStringBuilder", name := "append", desc := "(Ljava/lang/String;)Ljava/lang/AbstractStringBuilder;" } : Jvm.MethodName) jdk_68_method_22_code (3 : Nat) (Option.some (Jvm.ClassFile.FieldType.object "java/lang/AbstractStringBuilder"))).before args0 about1 = true := code_word (m := ⟨13, 4⟩) (meth := k13m4) (c := k13c4) (by decide +kernel) rfl rfl rfl (by decide +kernel)
set_option maxRecDepth 65536 in
theorem w_c13 : (Jvm.Cond.code ({ cls := "java/lang/String", name := "length", desc := "()I" } : Jvm.MethodName) jdk_42_method_54_code (1 : Nat) (Option.some Jvm.ClassFile.FieldType.int)).before args0 about1 = true := code_word (m := ⟨7, 3⟩) (meth := k7m3) (c := k7c3) (by decide +kernel) rfl rfl rfl (by decide +kernel)
set_option maxRecDepth 65536 in
theorem w_c14 : (Jvm.Cond.code ({ cls := "java/lang/String", name := "coder", desc := "()B" } : Jvm.MethodName) jdk_42_method_152_code (1 : Nat) (Option.some Jvm.ClassFile.FieldType.byte)).before args0 about1 = true := code_word (m := ⟨7, 8⟩) (meth := k7m8) (c := k7c8) (by decide +kernel) rfl rfl rfl (by decide +kernel)
set_option maxRecDepth 65536 in
theorem w_c15 : (Jvm.Cond.code ({ cls := "java/lang/AbstractStringBuilder", name := "ensureCapacityInternal", desc := "(I)V" } : Jvm.MethodName) jdk_68_method_9_code (3 : Nat) (Option.none : Option Jvm.ClassFile.FieldType)).before args0 about1 = true := code_word (m := ⟨13, 3⟩) (meth := k13m3) (c := k13c3) (by decide +kernel) rfl rfl rfl (by decide +kernel)
set_option maxRecDepth 65536 in
theorem w_c16 : (Jvm.Cond.code ({ cls := "java/lang/AbstractStringBuilder", name := "putStringAt", desc := "(ILjava/lang/String;)V" } : Jvm.MethodName) jdk_68_method_73_code (3 : Nat) (Option.none : Option Jvm.ClassFile.FieldType)).before args0 about1 = true := code_word (m := ⟨13, 8⟩) (meth := k13m8) (c := k13c8) (by decide +kernel) rfl rfl rfl (by decide +kernel)
set_option maxRecDepth 65536 in
theorem w_c17 : (Jvm.Cond.code ({ cls := "java/lang/AbstractStringBuilder", name := "inflateIfNeededFor", desc := "(Ljava/lang/String;)V" } : Jvm.MethodName) jdk_68_method_71_code (2 : Nat) (Option.none : Option Jvm.ClassFile.FieldType)).before args0 about1 = true := code_word (m := ⟨13, 7⟩) (meth := k13m7) (c := k13c7) (by decide +kernel) rfl rfl rfl (by decide +kernel)
set_option maxRecDepth 65536 in
theorem w_c18 : (Jvm.Cond.code ({ cls := "java/lang/String", name := "getBytes", desc := "([BIB)V" } : Jvm.MethodName) jdk_42_method_147_code (4 : Nat) (Option.none : Option Jvm.ClassFile.FieldType)).before args0 about1 = true := code_word (m := ⟨7, 5⟩) (meth := k7m5) (c := k7c5) (by decide +kernel) rfl rfl rfl (by decide +kernel)
set_option maxRecDepth 65536 in
theorem w_c19 : (Jvm.Cond.code ({ cls := "java/lang/StringBuilder", name := "toString", desc := "()Ljava/lang/String;" } : Jvm.MethodName) jdk_67_method_42_code (1 : Nat) (Option.some (Jvm.ClassFile.FieldType.object "java/lang/String"))).before args0 about1 = true := code_word (m := ⟨14, 2⟩) (meth := k14m2) (c := k14c2) (by decide +kernel) rfl rfl rfl (by decide +kernel)
set_option maxRecDepth 65536 in
theorem w_c20 : (Jvm.Cond.code ({ cls := "java/lang/String", name := "<init>", desc := "(Ljava/lang/StringBuilder;)V" } : Jvm.MethodName) jdk_42_method_53_code (2 : Nat) (Option.none : Option Jvm.ClassFile.FieldType)).before args0 about1 = true := code_word (m := ⟨7, 2⟩) (meth := k7m2) (c := k7c2) (by decide +kernel) rfl rfl rfl (by decide +kernel)
set_option maxRecDepth 65536 in
theorem w_c21 : (Jvm.Cond.code ({ cls := "java/lang/String", name := "<init>", desc := "(Ljava/lang/AbstractStringBuilder;Ljava/lang/Void;)V" } : Jvm.MethodName) jdk_42_method_150_code (5 : Nat) (Option.none : Option Jvm.ClassFile.FieldType)).before args0 about1 = true := code_word (m := ⟨7, 7⟩) (meth := k7m7) (c := k7c7) (by decide +kernel) rfl rfl rfl (by decide +kernel)
set_option maxRecDepth 65536 in
theorem w_c22 : (Jvm.Cond.code ({ cls := "java/lang/AbstractStringBuilder", name := "getValue", desc := "()[B" } : Jvm.MethodName) jdk_68_method_64_code (1 : Nat) (Option.some (Jvm.ClassFile.FieldType.array Jvm.ClassFile.FieldType.byte))).before args0 about1 = true := code_word (m := ⟨13, 5⟩) (meth := k13m5) (c := k13c5) (by decide +kernel) rfl rfl rfl (by decide +kernel)
set_option maxRecDepth 65536 in
theorem w_c23 : (Jvm.Cond.code ({ cls := "java/lang/StringBuilder", name := "length", desc := "()I" } : Jvm.MethodName) jdk_67_method_93_code (1 : Nat) (Option.some Jvm.ClassFile.FieldType.int)).before args0 about1 = true := code_word (m := ⟨14, 3⟩) (meth := k14m3) (c := k14c3) (by decide +kernel) rfl rfl rfl (by decide +kernel)
set_option maxRecDepth 65536 in
theorem w_c24 : (Jvm.Cond.code ({ cls := "java/lang/AbstractStringBuilder", name := "length", desc := "()I" } : Jvm.MethodName) jdk_68_method_6_code (1 : Nat) (Option.some Jvm.ClassFile.FieldType.int)).before args0 about1 = true := code_word (m := ⟨13, 2⟩) (meth := k13m2) (c := k13c2) (by decide +kernel) rfl rfl rfl (by decide +kernel)
set_option maxRecDepth 65536 in
theorem w_c25 : (Jvm.Cond.code ({ cls := "java/lang/AbstractStringBuilder", name := "isLatin1", desc := "()Z" } : Jvm.MethodName) jdk_68_method_68_code (1 : Nat) (Option.some Jvm.ClassFile.FieldType.boolean)).before args0 about1 = true := code_word (m := ⟨13, 6⟩) (meth := k13m6) (c := k13c6) (by decide +kernel) rfl rfl rfl (by decide +kernel)
set_option maxRecDepth 65536 in
theorem w_c26 : (Jvm.Cond.code ({ cls := "java/util/Arrays", name := "copyOfRange", desc := "([BII)[B" } : Jvm.MethodName) jdk_65_method_132_code (3 : Nat) (Option.some (Jvm.ClassFile.FieldType.array Jvm.ClassFile.FieldType.byte))).before args0 about1 = true := code_word (m := ⟨16, 2⟩) (meth := k16m2) (c := k16c2) (by decide +kernel) rfl rfl rfl (by decide +kernel)
set_option maxRecDepth 65536 in
theorem w_c27 : (Jvm.Cond.code ({ cls := "java/util/Arrays", name := "copyOfRangeByte", desc := "([BII)[B" } : Jvm.MethodName) jdk_65_method_133_code (5 : Nat) (Option.some (Jvm.ClassFile.FieldType.array Jvm.ClassFile.FieldType.byte))).before args0 about1 = true := code_word (m := ⟨16, 3⟩) (meth := k16m3) (c := k16c3) (by decide +kernel) rfl rfl rfl (by decide +kernel)
set_option maxRecDepth 65536 in
theorem w_c28 : (Jvm.Cond.code ({ cls := "java/util/Arrays", name := "checkLength", desc := "(II)V" } : Jvm.MethodName) jdk_65_method_131_code (2 : Nat) (Option.none : Option Jvm.ClassFile.FieldType)).before args0 about1 = true := code_word (m := ⟨16, 1⟩) (meth := k16m1) (c := k16c1) (by decide +kernel) rfl rfl rfl (by decide +kernel)
set_option maxRecDepth 65536 in
theorem w_c29 : (Jvm.Cond.code ({ cls := "java/lang/Math", name := "min", desc := "(II)I" } : Jvm.MethodName) jdk_29_method_69_code (2 : Nat) (Option.some Jvm.ClassFile.FieldType.int)).before args0 about1 = true := code_word (m := ⟨17, 1⟩) (meth := k17m1) (c := k17c1) (by decide +kernel) rfl rfl rfl (by decide +kernel)
set_option maxRecDepth 65536 in
theorem w_c30 : (Jvm.Cond.code ({ cls := "com/example/remitter/remitter/ConfigException", name := "<init>", desc := "(Ljava/lang/String;)V" } : Jvm.MethodName) prog_1_method_1_code (2 : Nat) (Option.none : Option Jvm.ClassFile.FieldType)).before args0 about1 = true := code_word (m := ⟨11, 0⟩) (meth := k11m0) (c := k11c0) (by decide +kernel) rfl rfl rfl (by decide +kernel)
set_option maxRecDepth 65536 in
theorem w_c31 : (Jvm.Cond.code ({ cls := "java/lang/Exception", name := "<init>", desc := "(Ljava/lang/String;)V" } : Jvm.MethodName) jdk_59_method_2_code (2 : Nat) (Option.none : Option Jvm.ClassFile.FieldType)).before args0 about1 = true := code_word (m := ⟨10, 1⟩) (meth := k10m1) (c := k10c1) (by decide +kernel) rfl rfl rfl (by decide +kernel)
set_option maxRecDepth 65536 in
theorem w_c32 : (Jvm.Cond.code ({ cls := "java/lang/Throwable", name := "<init>", desc := "(Ljava/lang/String;)V" } : Jvm.MethodName) jdk_78_method_2_code (2 : Nat) (Option.none : Option Jvm.ClassFile.FieldType)).before args0 about1 = true := code_word (m := ⟨9, 1⟩) (meth := k9m1) (c := k9c1) (by decide +kernel) rfl rfl rfl (by decide +kernel)
set_option maxRecDepth 65536 in
theorem w_c33 : (Jvm.Cond.code ({ cls := "java/lang/Throwable", name := "<init>", desc := "()V" } : Jvm.MethodName) jdk_78_method_1_code (1 : Nat) (Option.none : Option Jvm.ClassFile.FieldType)).before args0 about1 = true := code_word (m := ⟨9, 0⟩) (meth := k9m0) (c := k9c0) (by decide +kernel) rfl rfl rfl (by decide +kernel)
set_option maxRecDepth 65536 in
theorem w_c34 : (Jvm.Cond.code ({ cls := "java/lang/Throwable", name := "getMessage", desc := "()Ljava/lang/String;" } : Jvm.MethodName) jdk_78_method_6_code (1 : Nat) (Option.some (Jvm.ClassFile.FieldType.object "java/lang/String"))).before args0 about1 = true := code_word (m := ⟨9, 2⟩) (meth := k9m2) (c := k9c2) (by decide +kernel) rfl rfl rfl (by decide +kernel)
set_option maxRecDepth 65536 in
theorem w_c35 : (Jvm.Cond.code ({ cls := "java/lang/String", name := "equals", desc := "(Ljava/lang/Object;)Z" } : Jvm.MethodName) jdk_42_method_66_code (3 : Nat) (Option.some Jvm.ClassFile.FieldType.boolean)).before args0 about1 = true := code_word (m := ⟨7, 4⟩) (meth := k7m4) (c := k7c4) (by decide +kernel) rfl rfl rfl (by decide +kernel)
set_option maxRecDepth 65536 in
theorem w_c36 : (Jvm.Cond.code ({ cls := "java/lang/StringLatin1", name := "equals", desc := "([B[B)Z" } : Jvm.MethodName) jdk_43_method_13_code (3 : Nat) (Option.some Jvm.ClassFile.FieldType.boolean)).before args0 about1 = true := code_word (m := ⟨18, 1⟩) (meth := k18m1) (c := k18c1) (by decide +kernel) rfl rfl rfl (by decide +kernel)
def codes1 : List Jvm.Cond := [Jvm.Cond.code x code maxLocals ret, Jvm.Cond.code ({ cls := "java/lang/String", name := "<init>", desc := "([C)V" } : Jvm.MethodName) jdk_42_method_3_code (2 : Nat) (Option.none : Option Jvm.ClassFile.FieldType), Jvm.Cond.code ({ cls := "java/lang/String", name := "<init>", desc := "([CIILjava/lang/Void;)V" } : Jvm.MethodName) jdk_42_method_149_code (6 : Nat) (Option.none : Option Jvm.ClassFile.FieldType), Jvm.Cond.code ({ cls := "java/lang/Object", name := "<init>", desc := "()V" } : Jvm.MethodName) object_method_1_code (1 : Nat) (Option.none : Option Jvm.ClassFile.FieldType), Jvm.Cond.code ({ cls := "java/lang/StringUTF16", name := "compress", desc := "([CII)[B" } : Jvm.MethodName) jdk_52_method_16_code (6 : Nat) (Option.some (Jvm.ClassFile.FieldType.array Jvm.ClassFile.FieldType.byte)), Jvm.Cond.code ({ cls := "java/lang/StringUTF16", name := "compress", desc := "([CI[BII)I" } : Jvm.MethodName) jdk_52_method_21_code (7 : Nat) (Option.some Jvm.ClassFile.FieldType.int), Jvm.Cond.code ({ cls := "java/lang/StringUTF16", name := "coderFromArrayLen", desc := "([BI)B" } : Jvm.MethodName) jdk_52_method_15_code (2 : Nat) (Option.some Jvm.ClassFile.FieldType.byte), Jvm.Cond.code ({ cls := "com/example/remitter/remitter/ConfigException", name := "atKey", desc := "(Ljava/lang/String;Ljava/lang/String;)Lcom/example/remitter/remitter/ConfigException;" } : Jvm.MethodName) prog_1_method_2_code (2 : Nat) (Option.some (Jvm.ClassFile.FieldType.object "com/example/remitter/remitter/ConfigException")), Jvm.Cond.code ({ cls := "com/example/remitter/remitter/ConfigException", name := "naming", desc := "(Ljava/lang/String;Ljava/lang/String;)Ljava/lang/String;" } : Jvm.MethodName) prog_1_method_3_code (2 : Nat) (Option.some (Jvm.ClassFile.FieldType.object "java/lang/String")), Jvm.Cond.code ({ cls := "java/lang/StringBuilder", name := "<init>", desc := "()V" } : Jvm.MethodName) jdk_67_method_1_code (1 : Nat) (Option.none : Option Jvm.ClassFile.FieldType), Jvm.Cond.code ({ cls := "java/lang/AbstractStringBuilder", name := "<init>", desc := "(I)V" } : Jvm.MethodName) jdk_68_method_2_code (2 : Nat) (Option.none : Option Jvm.ClassFile.FieldType), Jvm.Cond.code ({ cls := "java/lang/StringBuilder", name := "append", desc := "(Ljava/lang/String;)Ljava/lang/StringBuilder;" } : Jvm.MethodName) jdk_67_method_7_code (2 : Nat) (Option.some (Jvm.ClassFile.FieldType.object "java/lang/StringBuilder")), Jvm.Cond.code ({ cls := "java/lang/AbstractStringBuilder", name := "append", desc := "(Ljava/lang/String;)Ljava/lang/AbstractStringBuilder;" } : Jvm.MethodName) jdk_68_method_22_code (3 : Nat) (Option.some (Jvm.ClassFile.FieldType.object "java/lang/AbstractStringBuilder")), Jvm.Cond.code ({ cls := "java/lang/String", name := "length", desc := "()I" } : Jvm.MethodName) jdk_42_method_54_code (1 : Nat) (Option.some Jvm.ClassFile.FieldType.int), Jvm.Cond.code ({ cls := "java/lang/String", name := "coder", desc := "()B" } : Jvm.MethodName) jdk_42_method_152_code (1 : Nat) (Option.some Jvm.ClassFile.FieldType.byte), Jvm.Cond.code ({ cls := "java/lang/AbstractStringBuilder", name := "ensureCapacityInternal", desc := "(I)V" } : Jvm.MethodName) jdk_68_method_9_code (3 : Nat) (Option.none : Option Jvm.ClassFile.FieldType), Jvm.Cond.code ({ cls := "java/lang/AbstractStringBuilder", name := "putStringAt", desc := "(ILjava/lang/String;)V" } : Jvm.MethodName) jdk_68_method_73_code (3 : Nat) (Option.none : Option Jvm.ClassFile.FieldType), Jvm.Cond.code ({ cls := "java/lang/AbstractStringBuilder", name := "inflateIfNeededFor", desc := "(Ljava/lang/String;)V" } : Jvm.MethodName) jdk_68_method_71_code (2 : Nat) (Option.none : Option Jvm.ClassFile.FieldType), Jvm.Cond.code ({ cls := "java/lang/String", name := "getBytes", desc := "([BIB)V" } : Jvm.MethodName) jdk_42_method_147_code (4 : Nat) (Option.none : Option Jvm.ClassFile.FieldType), Jvm.Cond.code ({ cls := "java/lang/StringBuilder", name := "toString", desc := "()Ljava/lang/String;" } : Jvm.MethodName) jdk_67_method_42_code (1 : Nat) (Option.some (Jvm.ClassFile.FieldType.object "java/lang/String")), Jvm.Cond.code ({ cls := "java/lang/String", name := "<init>", desc := "(Ljava/lang/StringBuilder;)V" } : Jvm.MethodName) jdk_42_method_53_code (2 : Nat) (Option.none : Option Jvm.ClassFile.FieldType), Jvm.Cond.code ({ cls := "java/lang/String", name := "<init>", desc := "(Ljava/lang/AbstractStringBuilder;Ljava/lang/Void;)V" } : Jvm.MethodName) jdk_42_method_150_code (5 : Nat) (Option.none : Option Jvm.ClassFile.FieldType), Jvm.Cond.code ({ cls := "java/lang/AbstractStringBuilder", name := "getValue", desc := "()[B" } : Jvm.MethodName) jdk_68_method_64_code (1 : Nat) (Option.some (Jvm.ClassFile.FieldType.array Jvm.ClassFile.FieldType.byte)), Jvm.Cond.code ({ cls := "java/lang/StringBuilder", name := "length", desc := "()I" } : Jvm.MethodName) jdk_67_method_93_code (1 : Nat) (Option.some Jvm.ClassFile.FieldType.int), Jvm.Cond.code ({ cls := "java/lang/AbstractStringBuilder", name := "length", desc := "()I" } : Jvm.MethodName) jdk_68_method_6_code (1 : Nat) (Option.some Jvm.ClassFile.FieldType.int), Jvm.Cond.code ({ cls := "java/lang/AbstractStringBuilder", name := "isLatin1", desc := "()Z" } : Jvm.MethodName) jdk_68_method_68_code (1 : Nat) (Option.some Jvm.ClassFile.FieldType.boolean), Jvm.Cond.code ({ cls := "java/util/Arrays", name := "copyOfRange", desc := "([BII)[B" } : Jvm.MethodName) jdk_65_method_132_code (3 : Nat) (Option.some (Jvm.ClassFile.FieldType.array Jvm.ClassFile.FieldType.byte)), Jvm.Cond.code ({ cls := "java/util/Arrays", name := "copyOfRangeByte", desc := "([BII)[B" } : Jvm.MethodName) jdk_65_method_133_code (5 : Nat) (Option.some (Jvm.ClassFile.FieldType.array Jvm.ClassFile.FieldType.byte)), Jvm.Cond.code ({ cls := "java/util/Arrays", name := "checkLength", desc := "(II)V" } : Jvm.MethodName) jdk_65_method_131_code (2 : Nat) (Option.none : Option Jvm.ClassFile.FieldType), Jvm.Cond.code ({ cls := "java/lang/Math", name := "min", desc := "(II)I" } : Jvm.MethodName) jdk_29_method_69_code (2 : Nat) (Option.some Jvm.ClassFile.FieldType.int), Jvm.Cond.code ({ cls := "com/example/remitter/remitter/ConfigException", name := "<init>", desc := "(Ljava/lang/String;)V" } : Jvm.MethodName) prog_1_method_1_code (2 : Nat) (Option.none : Option Jvm.ClassFile.FieldType), Jvm.Cond.code ({ cls := "java/lang/Exception", name := "<init>", desc := "(Ljava/lang/String;)V" } : Jvm.MethodName) jdk_59_method_2_code (2 : Nat) (Option.none : Option Jvm.ClassFile.FieldType), Jvm.Cond.code ({ cls := "java/lang/Throwable", name := "<init>", desc := "(Ljava/lang/String;)V" } : Jvm.MethodName) jdk_78_method_2_code (2 : Nat) (Option.none : Option Jvm.ClassFile.FieldType), Jvm.Cond.code ({ cls := "java/lang/Throwable", name := "<init>", desc := "()V" } : Jvm.MethodName) jdk_78_method_1_code (1 : Nat) (Option.none : Option Jvm.ClassFile.FieldType), Jvm.Cond.code ({ cls := "java/lang/Throwable", name := "getMessage", desc := "()Ljava/lang/String;" } : Jvm.MethodName) jdk_78_method_6_code (1 : Nat) (Option.some (Jvm.ClassFile.FieldType.object "java/lang/String")), Jvm.Cond.code ({ cls := "java/lang/String", name := "equals", desc := "(Ljava/lang/Object;)Z" } : Jvm.MethodName) jdk_42_method_66_code (3 : Nat) (Option.some Jvm.ClassFile.FieldType.boolean), Jvm.Cond.code ({ cls := "java/lang/StringLatin1", name := "equals", desc := "([B[B)Z" } : Jvm.MethodName) jdk_43_method_13_code (3 : Nat) (Option.some Jvm.ClassFile.FieldType.boolean)]
set_option maxRecDepth 65536 in
theorem codes_eq : words1.filter isCode = codes1 := rfl
theorem w_codes : ∀ c ∈ words1.filter isCode, c.before args0 about1 = true := by
  rw [codes_eq]
  intro c hc
  simp only [codes1, List.mem_cons, List.not_mem_nil, or_false] at hc
  rcases hc with rfl | rfl | rfl | rfl | rfl | rfl | rfl | rfl | rfl | rfl | rfl | rfl | rfl | rfl | rfl | rfl | rfl | rfl | rfl | rfl | rfl | rfl | rfl | rfl | rfl | rfl | rfl | rfl | rfl | rfl | rfl | rfl | rfl | rfl | rfl | rfl | rfl
  · exact w_c0
  · exact w_c1
  · exact w_c2
  · exact w_c3
  · exact w_c4
  · exact w_c5
  · exact w_c6
  · exact w_c7
  · exact w_c8
  · exact w_c9
  · exact w_c10
  · exact w_c11
  · exact w_c12
  · exact w_c13
  · exact w_c14
  · exact w_c15
  · exact w_c16
  · exact w_c17
  · exact w_c18
  · exact w_c19
  · exact w_c20
  · exact w_c21
  · exact w_c22
  · exact w_c23
  · exact w_c24
  · exact w_c25
  · exact w_c26
  · exact w_c27
  · exact w_c28
  · exact w_c29
  · exact w_c30
  · exact w_c31
  · exact w_c32
  · exact w_c33
  · exact w_c34
  · exact w_c35
  · exact w_c36
set_option maxRecDepth 65536 in
theorem w_t1 : (words1.take 24).all (fun c => isCode c || c.before args0 about1) = true := by decide +kernel
set_option maxRecDepth 65536 in
theorem w_t2 : ((words1.drop 24).take 24).all (fun c => isCode c || c.before args0 about1) = true := by decide +kernel
set_option maxRecDepth 65536 in
theorem w_t3 : (((words1.drop 24).drop 24).take 24).all (fun c => isCode c || c.before args0 about1) = true := by decide +kernel
set_option maxRecDepth 65536 in
theorem w_t4 : ((((words1.drop 24).drop 24).drop 24).take 24).all (fun c => isCode c || c.before args0 about1) = true := by decide +kernel
set_option maxRecDepth 65536 in
theorem w_t5 : (((((words1.drop 24).drop 24).drop 24).drop 24).take 24).all (fun c => isCode c || c.before args0 about1) = true := by decide +kernel
set_option maxRecDepth 65536 in
theorem w_t6 : ((((((words1.drop 24).drop 24).drop 24).drop 24).drop 24).take 24).all (fun c => isCode c || c.before args0 about1) = true := by decide +kernel
set_option maxRecDepth 65536 in
theorem w_t7 : (((((((words1.drop 24).drop 24).drop 24).drop 24).drop 24).drop 24).take 24).all (fun c => isCode c || c.before args0 about1) = true := by decide +kernel
set_option maxRecDepth 65536 in
theorem w_t8 : ((((((((words1.drop 24).drop 24).drop 24).drop 24).drop 24).drop 24).drop 24).take 24).all (fun c => isCode c || c.before args0 about1) = true := by decide +kernel
set_option maxRecDepth 65536 in
theorem w_t9 : (((((((((words1.drop 24).drop 24).drop 24).drop 24).drop 24).drop 24).drop 24).drop 24).take 24).all (fun c => isCode c || c.before args0 about1) = true := by decide +kernel
set_option maxRecDepth 65536 in
theorem w_t10 : (((((((((words1.drop 24).drop 24).drop 24).drop 24).drop 24).drop 24).drop 24).drop 24).drop 24).all (fun c => isCode c || c.before args0 about1) = true := by decide +kernel
theorem w_tables : (allAtoms (Jvm.Cond.code x code maxLocals ret :: tables_1)).before args0 about1 = true := by
  rw [allAtoms_all]
  show words1.all (fun c => c.before args0 about1) = true
  refine all_split ?_ w_codes
  rw [← List.take_append_drop 24 words1, List.all_append, w_t1, ← List.take_append_drop 24 (words1.drop 24), List.all_append, w_t2, ← List.take_append_drop 24 ((words1.drop 24).drop 24), List.all_append, w_t3, ← List.take_append_drop 24 (((words1.drop 24).drop 24).drop 24), List.all_append, w_t4, ← List.take_append_drop 24 ((((words1.drop 24).drop 24).drop 24).drop 24), List.all_append, w_t5, ← List.take_append_drop 24 (((((words1.drop 24).drop 24).drop 24).drop 24).drop 24), List.all_append, w_t6, ← List.take_append_drop 24 ((((((words1.drop 24).drop 24).drop 24).drop 24).drop 24).drop 24), List.all_append, w_t7, ← List.take_append_drop 24 (((((((words1.drop 24).drop 24).drop 24).drop 24).drop 24).drop 24).drop 24), List.all_append, w_t8, ← List.take_append_drop 24 ((((((((words1.drop 24).drop 24).drop 24).drop 24).drop 24).drop 24).drop 24).drop 24), List.all_append, w_t9, w_t10]
  rfl
set_option maxRecDepth 65536 in
theorem w_rest : rest_1_c.before args0 about1 = true := by decide +kernel
set_option maxRecDepth 65536 in
theorem w_case : (Jvm.Cond.and given_1 narrow_1).before args0 about1 = true := by decide +kernel
set_option maxRecDepth 65536 in
theorem w_consts : constsHeld consts_1 about1 := Jvm.Lit.constsHeldB_iff.mp (by decide +kernel)
theorem w_applies : (headSpec (Jvm.Cond.code x code maxLocals ret :: tables_1) room_1).applies x e0.platform about1 = true :=
  (Spec.applies_iff w_frames).mpr ⟨w_running, w_runnable, w_alone, w_named, w_hears, w_ripe, w_room, w_tables⟩
theorem atStart : AtStart classFile x code maxLocals ret World_1 tables_1 room_1 Calls_1 rest_1 Pre_1 launch0 p0 e0 about1 theMethod args0 below0 :=
  ⟨lists_1, trivial, launch0.admits_env _ _ _, launch0.least_env, fairChoices_fair.cas, fairChoices_fair.clock, w_frames, w_args, w_heap, w_applies, ⟨(by decide +kernel : framesKnown about1 = true), ⟨(by decide +kernel : tablesKnown about1 = true), ⟨w_consts, trivial⟩⟩⟩, w_rest, w_case⟩
end start1
theorem witness_1 : WitnessClaimed_1 := ⟨start1.p0, start1.e0, start1.about1, start1.theMethod, start1.args0, start1.below0, start1.atStart⟩
end Jvm.Pilot.@@N@@
