import JvmDerived
import JvmDerived.Pilot.@@N@@Statement
import JvmDerived.Pilot.@@N@@Code
set_option linter.unusedVariables false
set_option linter.unusedSimpArgs false
@@BLOCK:HandJ.lean.txt@@
@@BLOCK:SymMore.lean.txt@@
namespace Jvm.Wk
open Sem ClassFile Op Lib Jvm.Stand Jvm.Free Jvm.LawKit Jvm.RoadKit
/-! THE SYMBOLIC HEAP: a list of known cells (items): an address, whether this run may write it (then it is new and no booked literal), what it is (an object of a described class | an array), and its values. -/
abbrev Kd : Type := String × List (String × String × String)
abbrev Item : Type := Addr × Bool × (Kd ⊕ FieldType) × List Value
abbrev key (x : Item) : Addr × Bool := (x.1, x.2.1)
def Ob (Z : State) (h : Heap) (a : Addr) (K : Kd) (vs : List Value) : Prop :=
  Exa Z h a K.1 ∧ ∀ (i : Nat) (f : String × String × String) (v : Value), K.2[i]? = some f → vs[i]? = some v → Fld Z h a f.1 f.2.1 f.2.2 v
def Ay (Z : State) (h : Heap) (a : Addr) (w : Bool) (ty : FieldType) (vs : List Value) : Prop :=
  ∃ c : Cell, Arr Z h a c ty ∧ c.slots = vs.toArray ∧ vs.length < 2 ^ 31 ∧ (∀ v ∈ vs, fits ty v = true) ∧ (w = true → ∀ C, ty = .object C → Ovr Z c.cls C)
def It (Z : State) (h : Heap) (x : Item) : Prop := match x.2.2.1 with
  | .inl K => Ob Z h x.1 K x.2.2.2 ∧ (x.2.1 = true → Unt h x.1)
  | .inr ty => Ay Z h x.1 x.2.1 ty x.2.2.2
def ApK (p q : Addr × Bool) : Prop := (p.2 || q.2) = true → p.1 ≠ q.1
def Hp (Z : State) (EL : List (String × Nat)) (vm : Vm) (h : Heap) (L : List Item) : Prop :=
  Ext Z.heap h ∧ CHv Z EL vm h ∧ (∀ x ∈ L, It Z h x) ∧ (L.map key).Pairwise ApK ∧ ∀ k ∈ L.map key, k.2 = true → Z.heap.size ≤ k.1 ∧ Safe Z EL vm h k.1
section Heaps
variable {Z : State} {EL : List (String × Nat)} {vm : Vm} {h h' : Heap} {L L' : List Item} {x : Item} {a : Addr} {sl : Nat} {v : Value}
theorem ApK.symm {p q : Addr × Bool} (k : ApK p q) : ApK q p := fun e => Ne.symm (k (by rw [Bool.or_comm]; exact e))
theorem It.lt (I : It Z h x) : x.1 < h.size := by
  obtain ⟨b, w, D, vs⟩ := x
  cases D with
  | inl K => exact (I.1.1 : Exa Z h b K.1).lt
  | inr ty => obtain ⟨c, A, -⟩ := I; exact A.lt
/-- untouched: as it was made, its fields aside -/
theorem unt_wr {b : Addr} (W : Wr h h' a sl v) (U : Unt h b) : Unt h' b := by
  obtain ⟨c0, w1, w2, w3, rfl⟩ := W
  obtain ⟨cell, u1, u2, u3⟩ := U
  by_cases q : a = b
  · subst q
    cases w1.symm.trans u1
    exact ⟨c0.setSlot sl v, by simp [(Array.getElem?_eq_some_iff.mp w1).1], u2, u3⟩
  · exact ⟨cell, by rw [Array.getElem?_setIfInBounds_ne q]; exact u1, u2, u3⟩
theorem It.ext (E : Ext h h') (I : It Z h x) : It Z h' x := by
  obtain ⟨b, w, D, vs⟩ := x
  cases D with
  | inl K =>
    refine ⟨⟨(I.1.1 : Exa Z h b K.1).ext E, fun i f v p q => (I.1.2 i f v p q).ext E⟩, fun hw => ?_⟩
    obtain ⟨cell, u1, u2⟩ := I.2 hw
    exact ⟨cell, E.2 _ _ u1, u2⟩
  | inr ty => obtain ⟨c, A, r⟩ := I; exact ⟨c, A.ext E, r⟩
theorem It.other (W : Wr h h' a sl v) (q : x.1 ≠ a) (I : It Z h x) : It Z h' x := by
  obtain ⟨b, w, D, vs⟩ := x
  cases D with
  | inl K =>
    refine ⟨⟨(I.1.1 : Exa Z h b K.1).wr W, fun i f v p r => (I.1.2 i f v p r).other W (Or.inl q)⟩, fun hw => unt_wr W (I.2 hw)⟩
  | inr ty => obtain ⟨c, A, r⟩ := I; exact ⟨c, A.other W q, r⟩
theorem extT {h1 h2 h3 : Heap} (A : Ext h1 h2) (B : Ext h2 h3) : Ext h1 h3 := ⟨Nat.le_trans A.1 B.1, fun x c q => B.2 x c (A.2 x c q)⟩
theorem Hp.push {D : Kd ⊕ FieldType} {vs : List Value} (H : Hp Z EL vm h L) (E : Ext h h') (I : It Z h' (h.size, true, D, vs)) : Hp Z EL vm h' ((h.size, true, D, vs) :: L) := by
  obtain ⟨H1, H2, H3, H4, H5⟩ := H
  refine ⟨extT H1 E, H2.ext E, ?_, ?_, ?_⟩
  · intro y hy
    rcases List.mem_cons.mp hy with rfl | hy
    · exact I
    · exact (H3 y hy).ext E
  · rw [List.map_cons]
    refine List.pairwise_cons.mpr ⟨fun k hk _ => ?_, H4⟩
    obtain ⟨y, hy, rfl⟩ := List.mem_map.mp hk
    exact Nat.ne_of_gt (H3 y hy).lt
  · intro k hk hw
    rcases List.mem_cons.mp hk with rfl | hk
    · exact ⟨H1.1, Safe.ext E H2 (Safe.new (Nat.le_refl _))⟩
    · exact ⟨(H5 k hk hw).1, Safe.ext E H2 (H5 k hk hw).2⟩
theorem Hp.add {D : Kd ⊕ FieldType} {vs : List Value} (H : Hp Z EL vm h L) (hn : ∀ k ∈ L.map key, k.2 = true → a ≠ k.1) (I : It Z h (a, false, D, vs)) : Hp Z EL vm h ((a, false, D, vs) :: L) := by
  obtain ⟨H1, H2, H3, H4, H5⟩ := H
  refine ⟨H1, H2, ?_, ?_, ?_⟩
  · intro y hy
    rcases List.mem_cons.mp hy with rfl | hy
    · exact I
    · exact H3 y hy
  · rw [List.map_cons]
    exact List.pairwise_cons.mpr ⟨fun k hk e => hn k hk (by simpa using e), H4⟩
  · intro k hk hw
    rcases List.mem_cons.mp hk with rfl | hk
    · cases hw
    · exact H5 k hk hw
theorem set_same {α : Type} {M : List α} {i : Nat} {k : α} (q : M[i]? = some k) : M.set i k = M := by
  obtain ⟨hi, rfl⟩ := List.getElem?_eq_some_iff.mp q
  exact List.set_getElem_self hi
theorem Hp.put {i : Nat} {D : Kd ⊕ FieldType} {vs vs' : List Value} (H : Hp Z EL vm h L) (hi : L[i]? = some (a, true, D, vs)) (W : Wr h h' a sl v) (I : It Z h' (a, true, D, vs')) : Hp Z EL vm h' (L.set i (a, true, D, vs')) := by
  obtain ⟨H1, H2, H3, H4, H5⟩ := H
  have hk : (L.map key)[i]? = some (a, true) := by rw [List.getElem?_map, hi]; rfl
  have em : (L.set i (a, true, D, vs')).map key = L.map key := by rw [List.map_set]; exact set_same hk
  have ha := H5 _ (List.mem_of_getElem? hk) rfl
  refine ⟨(Old.wr ⟨rfl, H1⟩ W ha.1).2, H2.wr W ha.2, ?_, by rw [em]; exact H4, ?_⟩
  · intro y hy
    obtain ⟨j, hj⟩ := List.mem_iff_getElem?.mp hy
    rw [List.getElem?_set] at hj
    split at hj
    · split at hj
      · cases hj; exact I
      · cases hj
    · rename_i hne
      refine (H3 y (List.mem_of_getElem? hj)).other W ?_
      have hkj : (L.map key)[j]? = some (key y) := by rw [List.getElem?_map, hj]; rfl
      obtain ⟨hi1, hi2⟩ := List.getElem?_eq_some_iff.mp hk
      obtain ⟨hj1, hj2⟩ := List.getElem?_eq_some_iff.mp hkj
      have P := List.pairwise_iff_getElem.mp H4
      rcases Nat.lt_or_gt_of_ne hne with q | q
      · have := P i j hi1 hj1 q
        rw [hi2, hj2] at this
        exact Ne.symm (this rfl)
      · have := P j i hj1 hi1 q
        rw [hi2, hj2] at this
        exact this (by simp)
  · rw [em]
    exact fun k hk hw => ⟨(H5 k hk hw).1, Safe.wr W ha.2 H2 (H5 k hk hw).2⟩
theorem Hp.perm (q : L.Perm L') (H : Hp Z EL vm h L) : Hp Z EL vm h L' := by
  obtain ⟨H1, H2, H3, H4, H5⟩ := H
  have qm := q.map key
  exact ⟨H1, H2, fun x hx => H3 x (q.mem_iff.mpr hx), (qm.pairwise_iff (fun {_ _} k => ApK.symm k)).mp H4, fun k hk => H5 k (qm.mem_iff.mpr hk)⟩
theorem Hp.sub (q : L'.Sublist L) (H : Hp Z EL vm h L) : Hp Z EL vm h L' := by
  obtain ⟨H1, H2, H3, H4, H5⟩ := H
  have qm := q.map key
  exact ⟨H1, H2, fun x hx => H3 x (q.subset hx), H4.sublist qm, fun k hk => H5 k (qm.subset hk)⟩
theorem Hp.later {vm1 : Vm} (H : Hp Z EL vm h L) (E : Ext h h') (Q : CHr Z EL vm h vm1 h') : Hp Z EL vm1 h' L := by
  obtain ⟨H1, H2, H3, H4, H5⟩ := H
  refine ⟨extT H1 E, Q.1, fun x hx => (H3 x hx).ext E, H4, fun k hk hw => ⟨(H5 k hk hw).1, ?_⟩⟩
  obtain ⟨y, hy, rfl⟩ := List.mem_map.mp hk
  exact Q.safe (H3 y hy).lt (H5 _ hk hw).2
theorem Hp.obj {i : Nat} {w : Bool} {K : Kd} {vs : List Value} (H : Hp Z EL vm h L) (hi : L[i]? = some (a, w, .inl K, vs)) : Ob Z h a K vs :=
  have q : Ob Z h a K vs ∧ (w = true → Unt h a) := H.2.2.1 _ (List.mem_of_getElem? hi)
  q.1
theorem Hp.unt {i : Nat} {K : Kd} {vs : List Value} (H : Hp Z EL vm h L) (hi : L[i]? = some (a, true, .inl K, vs)) : Unt h a :=
  have q : Ob Z h a K vs ∧ (true = true → Unt h a) := H.2.2.1 _ (List.mem_of_getElem? hi)
  q.2 rfl
theorem Hp.arr {i : Nat} {w : Bool} {ty : FieldType} {vs : List Value} (H : Hp Z EL vm h L) (hi : L[i]? = some (a, w, .inr ty, vs)) : Ay Z h a w ty vs := H.2.2.1 _ (List.mem_of_getElem? hi)
theorem Hp.new {i : Nat} {D : Kd ⊕ FieldType} {vs : List Value} (H : Hp Z EL vm h L) (hi : L[i]? = some (a, true, D, vs)) : Z.heap.size ≤ a ∧ Safe Z EL vm h a :=
  H.2.2.2.2 (a, true) (List.mem_map.mpr ⟨_, List.mem_of_getElem? hi, rfl⟩) rfl
theorem app_at {F : List Item} {i : Nat} (hi : L[i]? = some x) : (L ++ F)[i]? = some x := by
  rw [List.getElem?_append_left (List.getElem?_eq_some_iff.mp hi).1]; exact hi
theorem app_set {F : List Item} {i : Nat} {y : Item} (hi : L[i]? = some x) : (L ++ F).set i y = L.set i y ++ F :=
  List.set_append_left _ _ (List.getElem?_eq_some_iff.mp hi).1
/-- what the sheet says of a class: each field laid, each descriptor read -/
def LaidAll (Z : State) (a0 : Array Value) (C : String) : List (String × String × String) → Prop
  | [] => True
  | f :: r => (Laid Z a0 C f.1 f.2.1 f.2.2 ∧ (parseFieldDescriptor f.2.2).isSome = true) ∧ LaidAll Z a0 C r
theorem LaidAll.mem {a0 : Array Value} {C : String} : ∀ {l : List (String × String × String)}, LaidAll Z a0 C l → ∀ f ∈ l, Laid Z a0 C f.1 f.2.1 f.2.2 ∧ (parseFieldDescriptor f.2.2).isSome = true
  | [], _, _, q => nomatch q
  | g :: r, k, f, q => by
    rcases List.mem_cons.mp q with rfl | q
    · exact k.1
    · exact LaidAll.mem k.2 f q
def KOk (Z : State) (a0 : Array Value) (K : Kd) : Prop := LaidAll Z a0 K.1 K.2 ∧ (K.2.map (·.2.1)).Nodup
theorem KOk.ne {a0 : Array Value} {K : Kd} (k : KOk Z a0 K) {i j : Nat} {f g : String × String × String} (hi : K.2[i]? = some f) (hj : K.2[j]? = some g) (hne : i ≠ j) : Jvm.RoadKit.slotOf Z f.1 f.2.1 f.2.2 ≠ Jvm.RoadKit.slotOf Z g.1 g.2.1 g.2.2 := by
  obtain ⟨l1, p1⟩ := k.1.mem f (List.mem_of_getElem? hi)
  obtain ⟨l2, p2⟩ := k.1.mem g (List.mem_of_getElem? hj)
  obtain ⟨t1, q1⟩ := Option.isSome_iff_exists.mp p1
  obtain ⟨t2, q2⟩ := Option.isSome_iff_exists.mp p2
  refine slot_ne l1 l2 (fun e => hne ?_) q1 q2
  obtain ⟨hi1, rfl⟩ := List.getElem?_eq_some_iff.mp hi
  obtain ⟨hj1, rfl⟩ := List.getElem?_eq_some_iff.mp hj
  have N := k.2
  refine (List.getElem_inj (xs := K.2.map (·.2.1)) (i := i) (j := j) (h₀ := by simpa using hi1) (h₁ := by simpa using hj1) N).mp ?_
  simpa using e
theorem Ob.set {a0 : Array Value} {K : Kd} (k : KOk Z a0 K) {vs : List Value} {j : Nat} {f : String × String × String} (hj : K.2[j]? = some f) (W : Wr h h' a (Jvm.RoadKit.slotOf Z f.1 f.2.1 f.2.2) v) (I : Ob Z h a K vs) (hv : j < vs.length) : Ob Z h' a K (vs.set j v) := by
  refine ⟨I.1.wr W, fun i g u hg hu => ?_⟩
  rw [List.getElem?_set] at hu
  split at hu
  · rename_i e; subst e
    cases hu
    cases hj.symm.trans hg
    exact (I.2 j f _ hg (List.getElem?_eq_getElem hv)).same W
  · rename_i hne
    exact (I.2 i g u hg hu).other W (Or.inr (k.ne hg hj (Ne.symm hne)))
theorem Ay.set {w : Bool} {ty : FieldType} {vs : List Value} {j : Nat} (I : Ay Z h a w ty vs) (W : Wr h h' a j v) (hv : fits ty v = true) : Ay Z h' a w ty (vs.set j v) := by
  obtain ⟨c, A, e, hl, hf, ho⟩ := I
  refine ⟨c.setSlot j v, A.same W, ?_, by simpa using hl, ?_, ?_⟩
  · show c.slots.setIfInBounds j v = _
    rw [e]; simp
  · intro u hu
    rcases List.mem_or_eq_of_mem_set hu with q | rfl
    · exact hf u q
    · exact hv
  · exact fun q C r => ho q C r
end Heaps
end Jvm.Wk
namespace Jvm.Wk
open Sem ClassFile Op Lib Jvm.Stand Jvm.Free Jvm.LawKit Jvm.RoadKit
/-! A BODY AS A LIST OF ITS INSTRUCTIONS, and the plain ones run by evaluation. -/
abbrev Prog : Type := List (Nat × Instr × Nat)
def okB (code : ByteArray) : Prog → Bool
  | [] => true
  | (pc, i, n) :: r => decide (decode code pc = .ok (i, n)) && okB code r
theorem okB_at {code : ByteArray} : ∀ {B : Prog}, okB code B = true → ∀ {j pc : Nat} {i : Instr} {n : Nat}, B[j]? = some (pc, i, n) → decode code pc = .ok (i, n)
  | [], _, j, _, _, _, q => by simp at q
  | (pc0, i0, n0) :: r, h, 0, pc, i, n, q => by
    simp only [okB, Bool.and_eq_true, decide_eq_true_eq] at h
    simp only [List.getElem?_cons_zero, Option.some.injEq, Prod.mk.injEq] at q
    obtain ⟨rfl, rfl, rfl⟩ := q
    exact h.1
  | (pc0, i0, n0) :: r, h, j + 1, pc, i, n, q => by
    simp only [okB, Bool.and_eq_true] at h
    rw [List.getElem?_cons_succ] at q
    exact okB_at h.2 q
abbrev Cf : Type := Nat × List Slot × List Value
/-- Java's shifts -/
def ush (x y : Int32) : Int32 := (x.toUInt32 >>> (y &&& 31).toUInt32).toInt32
def shlL (x : Int64) (y : Int32) : Int64 := x <<< (y &&& 0x3f).toInt64
def shrL (x : Int64) (y : Int32) : Int64 := x >>> (y &&& 0x3f).toInt64
def ushL (x : Int64) (y : Int32) : Int64 := (x.toUInt64 >>> (y &&& 0x3f).toInt64.toUInt64).toInt64
def b2 (f : Int32 → Int32 → Int32) (n pc : Nat) (ls : List Slot) (st : List Value) : Option Cf := match n, st with
  | 1, .int y :: .int x :: r => some (pc + 1, ls, .int (f x y) :: r)
  | _, _ => none
def b2l (f : Int64 → Int64 → Int64) (n pc : Nat) (ls : List Slot) (st : List Value) : Option Cf := match n, st with
  | 1, .long y :: .long x :: r => some (pc + 1, ls, .long (f x y) :: r)
  | _, _ => none
def bsl (f : Int64 → Int32 → Int64) (n pc : Nat) (ls : List Slot) (st : List Value) : Option Cf := match n, st with
  | 1, .int y :: .long x :: r => some (pc + 1, ls, .long (f x y) :: r)
  | _, _ => none
def ucm (n pc : Nat) (ls : List Slot) (st : List Value) : Option Cf := match n, st with
  | 1, .long y :: .long x :: r => some (pc + 1, ls, .int (XT.cmpL x y) :: r)
  | _, _ => none
def u1 (f : Int32 → Value) (n pc : Nat) (ls : List Slot) (st : List Value) : Option Cf := match n, st with
  | 1, .int x :: r => some (pc + 1, ls, f x :: r)
  | _, _ => none
def u1l (f : Int64 → Value) (n pc : Nat) (ls : List Slot) (st : List Value) : Option Cf := match n, st with
  | 1, .long x :: r => some (pc + 1, ls, f x :: r)
  | _, _ => none
def gi (k ln n pc : Nat) (ls : List Slot) (st : List Value) : Option Cf := if n = ln then (match ls[k]? with
  | some (.val (.int v)) => some (pc + ln, ls, .int v :: st)
  | _ => none) else none
def gl (k ln n pc : Nat) (ls : List Slot) (st : List Value) : Option Cf := if n = ln then (match ls[k]? with
  | some (.val (.long v)) => some (pc + ln, ls, .long v :: st)
  | _ => none) else none
def ga (k ln n pc : Nat) (ls : List Slot) (st : List Value) : Option Cf := if n = ln then (match ls[k]? with
  | some (.val (.ref v)) => some (pc + ln, ls, .ref v :: st)
  | some (.val .null) => some (pc + ln, ls, .null :: st)
  | _ => none) else none
def sv (k ln n pc : Nat) (ls : List Slot) (v : Value) (r : List Value) : Option Cf := if n = ln then (match storeLocals ls.toArray k v with
  | some l' => some (pc + ln, l'.toList, r)
  | none => none) else none
def si (k ln n pc : Nat) (ls : List Slot) (st : List Value) : Option Cf := match st with
  | .int x :: r => sv k ln n pc ls (.int x) r
  | _ => none
def sl (k ln n pc : Nat) (ls : List Slot) (st : List Value) : Option Cf := match st with
  | .long x :: r => sv k ln n pc ls (.long x) r
  | _ => none
def sa (k ln n pc : Nat) (ls : List Slot) (st : List Value) : Option Cf := match st with
  | .ref x :: r => sv k ln n pc ls (.ref x) r
  | .null :: r => sv k ln n pc ls .null r
  | _ => none
def cn (v : Value) (ln n pc : Nat) (ls : List Slot) (st : List Value) : Option Cf := if n = ln then some (pc + ln, ls, v :: st) else none
def dpp (n pc : Nat) (ls : List Slot) (st : List Value) : Option Cf := match n, st with
  | 1, .int x :: r => some (pc + 1, ls, .int x :: .int x :: r)
  | 1, .ref x :: r => some (pc + 1, ls, .ref x :: .ref x :: r)
  | 1, .null :: r => some (pc + 1, ls, .null :: .null :: r)
  | _, _ => none
def dpx (n pc : Nat) (ls : List Slot) (st : List Value) : Option Cf := match n, st with
  | 1, .int x :: .ref y :: r => some (pc + 1, ls, .int x :: .ref y :: .int x :: r)
  | 1, .int x :: .int y :: r => some (pc + 1, ls, .int x :: .int y :: .int x :: r)
  | 1, .ref x :: .ref y :: r => some (pc + 1, ls, .ref x :: .ref y :: .ref x :: r)
  | _, _ => none
def dp2 (n pc : Nat) (ls : List Slot) (st : List Value) : Option Cf := match n, st with
  | 1, .long x :: r => some (pc + 1, ls, .long x :: .long x :: r)
  | 1, .int x :: .ref y :: r => some (pc + 1, ls, .int x :: .ref y :: .int x :: .ref y :: r)
  | 1, .int x :: .int y :: r => some (pc + 1, ls, .int x :: .int y :: .int x :: .int y :: r)
  | _, _ => none
def pp (n pc : Nat) (ls : List Slot) (st : List Value) : Option Cf := match n, st with
  | 1, .int _ :: r => some (pc + 1, ls, r)
  | 1, .ref _ :: r => some (pc + 1, ls, r)
  | 1, .null :: r => some (pc + 1, ls, r)
  | _, _ => none
def gt (o : Int) (n pc : Nat) (ls : List Slot) (st : List Value) : Option Cf := if n = 3 then (if 0 ≤ (pc : Int) + o then some (((pc : Int) + o).toNat, ls, st) else none) else none
def inc (k : Nat) (d : Int) (n pc : Nat) (ls : List Slot) (st : List Value) : Option Cf := match ls[k]? with
  | some (.val (.int x)) => sv k 3 n pc ls (.int (x + Int32.ofInt d)) st
  | _ => none
def st1 (i : Instr) (n pc : Nat) (ls : List Slot) (st : List Value) : Option Cf := match i with
  | .iload_n k => gi k.val 1 n pc ls st
  | .iload k => gi k 2 n pc ls st
  | .lload_n k => gl k.val 1 n pc ls st
  | .lload k => gl k 2 n pc ls st
  | .aload_n k => ga k.val 1 n pc ls st
  | .aload k => ga k 2 n pc ls st
  | .istore_n k => si k.val 1 n pc ls st
  | .istore k => si k 2 n pc ls st
  | .lstore_n k => sl k.val 1 n pc ls st
  | .lstore k => sl k 2 n pc ls st
  | .astore_n k => sa k.val 1 n pc ls st
  | .astore k => sa k 2 n pc ls st
  | .iconst z => cn (.int (Int32.ofInt z)) 1 n pc ls st
  | .bipush z => cn (.int (Int8.ofInt z).toInt32) 2 n pc ls st
  | .sipush z => cn (.int (Int16.ofInt z).toInt32) 3 n pc ls st
  | .lconst k => cn (.long (Int64.ofNat k)) 1 n pc ls st
  | .aconst_null => cn .null 1 n pc ls st
  | .iadd => b2 (· + ·) n pc ls st
  | .isub => b2 (· - ·) n pc ls st
  | .imul => b2 (· * ·) n pc ls st
  | .iand => b2 (· &&& ·) n pc ls st
  | .ior => b2 (· ||| ·) n pc ls st
  | .ixor => b2 (· ^^^ ·) n pc ls st
  | .ishl => b2 (fun x y => x <<< (y &&& 31)) n pc ls st
  | .ishr => b2 (fun x y => x >>> (y &&& 31)) n pc ls st
  | .iushr => b2 ush n pc ls st
  | .ladd => b2l (· + ·) n pc ls st
  | .lsub => b2l (· - ·) n pc ls st
  | .lmul => b2l (· * ·) n pc ls st
  | .land => b2l (· &&& ·) n pc ls st
  | .lor => b2l (· ||| ·) n pc ls st
  | .lxor => b2l (· ^^^ ·) n pc ls st
  | .lshl => bsl shlL n pc ls st
  | .lshr => bsl shrL n pc ls st
  | .lushr => bsl ushL n pc ls st
  | .lcmp => ucm n pc ls st
  | .ineg => u1 (fun x => .int (-x)) n pc ls st
  | .i2b => u1 (fun x => .int x.toInt8.toInt32) n pc ls st
  | .i2c => u1 (fun x => .int x.toUInt32.toUInt16.toUInt32.toInt32) n pc ls st
  | .i2s => u1 (fun x => .int x.toInt16.toInt32) n pc ls st
  | .i2l => u1 (fun x => .long x.toInt64) n pc ls st
  | .l2i => u1l (fun x => .int x.toInt32) n pc ls st
  | .lneg => u1l (fun x => .long (-x)) n pc ls st
  | .dup => dpp n pc ls st
  | .dup_x1 => dpx n pc ls st
  | .dup2 => dp2 n pc ls st
  | .pop => pp n pc ls st
  | .goto o => gt o n pc ls st
  | .iinc k d => inc k d n pc ls st
  | _ => none
section Inv
variable {n pc k ln : Nat} {ls : List Slot} {st : List Value} {z : Cf} {v : Value} {r : List Value}
theorem b2_inv {f : Int32 → Int32 → Int32} (h : b2 f n pc ls st = some z) : ∃ y x r, n = 1 ∧ st = .int y :: .int x :: r ∧ z = (pc + 1, ls, .int (f x y) :: r) := by
  unfold b2 at h; split at h
  · cases h; exact ⟨_, _, _, rfl, rfl, rfl⟩
  · cases h
theorem b2l_inv {f : Int64 → Int64 → Int64} (h : b2l f n pc ls st = some z) : ∃ y x r, n = 1 ∧ st = .long y :: .long x :: r ∧ z = (pc + 1, ls, .long (f x y) :: r) := by
  unfold b2l at h; split at h
  · cases h; exact ⟨_, _, _, rfl, rfl, rfl⟩
  · cases h
theorem bsl_inv {f : Int64 → Int32 → Int64} (h : bsl f n pc ls st = some z) : ∃ y x r, n = 1 ∧ st = .int y :: .long x :: r ∧ z = (pc + 1, ls, .long (f x y) :: r) := by
  unfold bsl at h; split at h
  · cases h; exact ⟨_, _, _, rfl, rfl, rfl⟩
  · cases h
theorem ucm_inv (h : ucm n pc ls st = some z) : ∃ y x r, n = 1 ∧ st = .long y :: .long x :: r ∧ z = (pc + 1, ls, .int (XT.cmpL x y) :: r) := by
  unfold ucm at h; split at h
  · cases h; exact ⟨_, _, _, rfl, rfl, rfl⟩
  · cases h
theorem u1_inv {f : Int32 → Value} (h : u1 f n pc ls st = some z) : ∃ x r, n = 1 ∧ st = .int x :: r ∧ z = (pc + 1, ls, f x :: r) := by
  unfold u1 at h; split at h
  · cases h; exact ⟨_, _, rfl, rfl, rfl⟩
  · cases h
theorem u1l_inv {f : Int64 → Value} (h : u1l f n pc ls st = some z) : ∃ x r, n = 1 ∧ st = .long x :: r ∧ z = (pc + 1, ls, f x :: r) := by
  unfold u1l at h; split at h
  · cases h; exact ⟨_, _, rfl, rfl, rfl⟩
  · cases h
theorem gi_inv (h : gi k ln n pc ls st = some z) : ∃ v, n = ln ∧ ls[k]? = some (.val (.int v)) ∧ z = (pc + ln, ls, .int v :: st) := by
  unfold gi at h; split at h
  · split at h
    · cases h; exact ⟨_, by assumption, by assumption, rfl⟩
    · cases h
  · cases h
theorem gl_inv (h : gl k ln n pc ls st = some z) : ∃ v, n = ln ∧ ls[k]? = some (.val (.long v)) ∧ z = (pc + ln, ls, .long v :: st) := by
  unfold gl at h; split at h
  · split at h
    · cases h; exact ⟨_, by assumption, by assumption, rfl⟩
    · cases h
  · cases h
theorem ga_inv (h : ga k ln n pc ls st = some z) : ∃ v : Value, v.isRef = true ∧ n = ln ∧ ls[k]? = some (.val v) ∧ z = (pc + ln, ls, v :: st) := by
  unfold ga at h; split at h
  · split at h
    · cases h; exact ⟨_, rfl, by assumption, by assumption, rfl⟩
    · cases h; exact ⟨_, rfl, by assumption, by assumption, rfl⟩
    · cases h
  · cases h
theorem sv_inv (h : sv k ln n pc ls v r = some z) : ∃ l', n = ln ∧ storeLocals ls.toArray k v = some l' ∧ z = (pc + ln, l'.toList, r) := by
  unfold sv at h; split at h
  · split at h
    · cases h; exact ⟨_, by assumption, by assumption, rfl⟩
    · cases h
  · cases h
theorem si_inv (h : si k ln n pc ls st = some z) : ∃ x r l', n = ln ∧ st = .int x :: r ∧ storeLocals ls.toArray k (.int x) = some l' ∧ z = (pc + ln, l'.toList, r) := by
  unfold si at h; split at h
  · obtain ⟨l', a, b, c⟩ := sv_inv h; exact ⟨_, _, l', a, rfl, b, c⟩
  · cases h
theorem sl_inv (h : sl k ln n pc ls st = some z) : ∃ x r l', n = ln ∧ st = .long x :: r ∧ storeLocals ls.toArray k (.long x) = some l' ∧ z = (pc + ln, l'.toList, r) := by
  unfold sl at h; split at h
  · obtain ⟨l', a, b, c⟩ := sv_inv h; exact ⟨_, _, l', a, rfl, b, c⟩
  · cases h
theorem sa_inv (h : sa k ln n pc ls st = some z) : ∃ x r l', Value.isRef x = true ∧ n = ln ∧ st = x :: r ∧ storeLocals ls.toArray k x = some l' ∧ z = (pc + ln, l'.toList, r) := by
  unfold sa at h; split at h
  · obtain ⟨l', a, b, c⟩ := sv_inv h; exact ⟨_, _, l', rfl, a, rfl, b, c⟩
  · obtain ⟨l', a, b, c⟩ := sv_inv h; exact ⟨_, _, l', rfl, a, rfl, b, c⟩
  · cases h
theorem cn_inv (h : cn v ln n pc ls st = some z) : n = ln ∧ z = (pc + ln, ls, v :: st) := by
  unfold cn at h; split at h
  · cases h; exact ⟨by assumption, rfl⟩
  · cases h
theorem dpp_inv (h : dpp n pc ls st = some z) : ∃ x r, Value.category x = 1 ∧ n = 1 ∧ st = x :: r ∧ z = (pc + 1, ls, x :: x :: r) := by
  unfold dpp at h; split at h
  all_goals first | (cases h; exact ⟨_, _, rfl, rfl, rfl, rfl⟩) | cases h
theorem dpx_inv (h : dpx n pc ls st = some z) : ∃ x y r, Value.category x = 1 ∧ Value.category y = 1 ∧ n = 1 ∧ st = x :: y :: r ∧ z = (pc + 1, ls, x :: y :: x :: r) := by
  unfold dpx at h; split at h
  all_goals first | (cases h; exact ⟨_, _, _, rfl, rfl, rfl, rfl, rfl⟩) | cases h
theorem dp2_inv (h : dp2 n pc ls st = some z) : (∃ x r, n = 1 ∧ st = .long x :: r ∧ z = (pc + 1, ls, .long x :: .long x :: r)) ∨ ∃ x y r, Value.category x = 1 ∧ Value.category y = 1 ∧ n = 1 ∧ st = x :: y :: r ∧ z = (pc + 1, ls, x :: y :: x :: y :: r) := by
  unfold dp2 at h; split at h
  all_goals first | (cases h; exact Or.inl ⟨_, _, rfl, rfl, rfl⟩) | (cases h; exact Or.inr ⟨_, _, _, rfl, rfl, rfl, rfl, rfl⟩) | cases h
theorem pp_inv (h : pp n pc ls st = some z) : ∃ x r, Value.category x = 1 ∧ n = 1 ∧ st = x :: r ∧ z = (pc + 1, ls, r) := by
  unfold pp at h; split at h
  all_goals first | (cases h; exact ⟨_, _, rfl, rfl, rfl, rfl⟩) | cases h
theorem gt_inv {o : Int} (h : gt o n pc ls st = some z) : n = 3 ∧ 0 ≤ (pc : Int) + o ∧ z = (((pc : Int) + o).toNat, ls, st) := by
  unfold gt at h; split at h
  · split at h
    · cases h; exact ⟨by assumption, by assumption, rfl⟩
    · cases h
  · cases h
theorem inc_inv {d : Int} (h : inc k d n pc ls st = some z) : ∃ x l', n = 3 ∧ ls[k]? = some (.val (.int x)) ∧ storeLocals ls.toArray k (.int (x + Int32.ofInt d)) = some l' ∧ z = (pc + 3, l'.toList, st) := by
  unfold inc at h; split at h
  · obtain ⟨l', a, b, c⟩ := sv_inv h; exact ⟨_, l', a, by assumption, b, c⟩
  · cases h
end Inv
theorem arrL {ls : List Slot} {k : Nat} {v : Slot} (h : ls[k]? = some v) : ls.toArray[k]? = some v := by simpa using h
theorem st1_ok {p : Program} {e : Env} {below : List Frame} {T target : State} {m : MethodId} {c : Code} (hA : At T m c below) (hx : p.tables.exec = Jvm.exec) {i : Instr} {n pc : Nat} {ls : List Slot} {st : List Value} {z : Cf} (hd : decode c.code pc = .ok (i, n)) (h : st1 i n pc ls st = some z)
    (hr : Steps p.tables e below (T.setTop (mkF m z.1 z.2.1.toArray z.2.2)) target) : Steps p.tables e below (T.setTop (mkF m pc ls.toArray st)) target := by
  cases i
  case iload_n k => obtain ⟨v, rfl, hl, rfl⟩ := gi_inv h; exact XS.iloadN hA hx rfl hd (arrL hl) hr
  case iload k => obtain ⟨v, rfl, hl, rfl⟩ := gi_inv h; exact XS.iload hA hx rfl hd (arrL hl) hr
  case lload_n k => obtain ⟨v, rfl, hl, rfl⟩ := gl_inv h; exact XT.lloadN hA hx rfl hd (arrL hl) hr
  case lload k => obtain ⟨v, rfl, hl, rfl⟩ := gl_inv h; exact XT.lload hA hx rfl hd (arrL hl) hr
  case aload_n k => obtain ⟨v, hv, rfl, hl, rfl⟩ := ga_inv h; exact XS.aloadN hA hx rfl hd (arrL hl) hv hr
  case aload k => obtain ⟨v, hv, rfl, hl, rfl⟩ := ga_inv h; exact XS.aload hA hx rfl hd (arrL hl) hv hr
  case istore_n k => obtain ⟨x, r, l', rfl, rfl, hl, rfl⟩ := si_inv h; exact XS.istoreN hA hx rfl hd rfl hl hr
  case istore k => obtain ⟨x, r, l', rfl, rfl, hl, rfl⟩ := si_inv h; exact XS.istore hA hx rfl hd rfl hl hr
  case lstore_n k => obtain ⟨x, r, l', rfl, rfl, hl, rfl⟩ := sl_inv h; exact XT.lstoreN hA hx rfl hd rfl hl hr
  case lstore k => obtain ⟨x, r, l', rfl, rfl, hl, rfl⟩ := sl_inv h; exact XT.lstore hA hx rfl hd rfl hl hr
  case astore_n k => obtain ⟨x, r, l', hv, rfl, rfl, hl, rfl⟩ := sa_inv h; exact XS.astoreN hA hx rfl hd rfl hv hl hr
  case astore k => obtain ⟨x, r, l', hv, rfl, rfl, hl, rfl⟩ := sa_inv h; exact XS.astore hA hx rfl hd rfl hv hl hr
  case iconst k => obtain ⟨rfl, rfl⟩ := cn_inv h; exact XS.iconst hA hx rfl hd hr
  case bipush k => obtain ⟨rfl, rfl⟩ := cn_inv h; exact XS.bipush hA hx rfl hd hr
  case sipush k => obtain ⟨rfl, rfl⟩ := cn_inv h; exact XS.sipush hA hx rfl hd hr
  case lconst k => obtain ⟨rfl, rfl⟩ := cn_inv h; exact XT.lconst hA hx rfl hd hr
  case aconst_null => obtain ⟨rfl, rfl⟩ := cn_inv h; exact XS.aconstNull hA hx rfl hd hr
  case iadd => obtain ⟨y, x, r, rfl, rfl, rfl⟩ := b2_inv h; exact XS.iadd hA hx rfl hd rfl hr
  case isub => obtain ⟨y, x, r, rfl, rfl, rfl⟩ := b2_inv h; exact XS.isub hA hx rfl hd rfl hr
  case imul => obtain ⟨y, x, r, rfl, rfl, rfl⟩ := b2_inv h; exact XS.imul hA hx rfl hd rfl hr
  case iand => obtain ⟨y, x, r, rfl, rfl, rfl⟩ := b2_inv h; exact XS.iand hA hx rfl hd rfl hr
  case ior => obtain ⟨y, x, r, rfl, rfl, rfl⟩ := b2_inv h; exact XT.ior hA hx rfl hd rfl hr
  case ixor => obtain ⟨y, x, r, rfl, rfl, rfl⟩ := b2_inv h; exact XT.ixor hA hx rfl hd rfl hr
  case ishl => obtain ⟨y, x, r, rfl, rfl, rfl⟩ := b2_inv h; exact XT.ishl hA hx rfl hd rfl hr
  case ishr => obtain ⟨y, x, r, rfl, rfl, rfl⟩ := b2_inv h; exact XT.ishr hA hx rfl hd rfl hr
  case iushr => obtain ⟨y, x, r, rfl, rfl, rfl⟩ := b2_inv h; exact XS.iushr hA hx rfl hd rfl hr
  case ladd => obtain ⟨y, x, r, rfl, rfl, rfl⟩ := b2l_inv h; exact XT.ladd hA hx rfl hd rfl hr
  case lsub => obtain ⟨y, x, r, rfl, rfl, rfl⟩ := b2l_inv h; exact XT.lsub hA hx rfl hd rfl hr
  case lmul => obtain ⟨y, x, r, rfl, rfl, rfl⟩ := b2l_inv h; exact XT.lmul hA hx rfl hd rfl hr
  case land => obtain ⟨y, x, r, rfl, rfl, rfl⟩ := b2l_inv h; exact XT.land hA hx rfl hd rfl hr
  case lor => obtain ⟨y, x, r, rfl, rfl, rfl⟩ := b2l_inv h; exact XT.lor hA hx rfl hd rfl hr
  case lxor => obtain ⟨y, x, r, rfl, rfl, rfl⟩ := b2l_inv h; exact XT.lxor hA hx rfl hd rfl hr
  case lshl => obtain ⟨y, x, r, rfl, rfl, rfl⟩ := bsl_inv h; exact XS.lshl hA hx rfl hd rfl hr
  case lshr => obtain ⟨y, x, r, rfl, rfl, rfl⟩ := bsl_inv h; exact XS.lshr hA hx rfl hd rfl hr
  case lushr => obtain ⟨y, x, r, rfl, rfl, rfl⟩ := bsl_inv h; exact XS.lushr hA hx rfl hd rfl hr
  case lcmp => obtain ⟨y, x, r, rfl, rfl, rfl⟩ := ucm_inv h; exact XT.lcmp hA hx rfl hd rfl hr
  case ineg => obtain ⟨x, r, rfl, rfl, rfl⟩ := u1_inv h; exact XS.ineg hA hx rfl hd rfl hr
  case i2b => obtain ⟨x, r, rfl, rfl, rfl⟩ := u1_inv h; exact XT.i2b hA hx rfl hd rfl hr
  case i2c => obtain ⟨x, r, rfl, rfl, rfl⟩ := u1_inv h; exact XT.i2c hA hx rfl hd rfl hr
  case i2s => obtain ⟨x, r, rfl, rfl, rfl⟩ := u1_inv h; exact XT.i2s hA hx rfl hd rfl hr
  case i2l => obtain ⟨x, r, rfl, rfl, rfl⟩ := u1_inv h; exact XT.i2l hA hx rfl hd rfl hr
  case l2i => obtain ⟨x, r, rfl, rfl, rfl⟩ := u1l_inv h; exact XT.l2i hA hx rfl hd rfl hr
  case lneg => obtain ⟨x, r, rfl, rfl, rfl⟩ := u1l_inv h; exact XT.lneg hA hx rfl hd rfl hr
  case dup => obtain ⟨x, r, hc, rfl, rfl, rfl⟩ := dpp_inv h; exact XS.dup hA hx rfl hd rfl hc hr
  case dup_x1 => obtain ⟨x, y, r, hc, hc', rfl, rfl, rfl⟩ := dpx_inv h; exact XT.dupX1 hA hx rfl hd rfl hc hc' hr
  case dup2 =>
    rcases dp2_inv h with ⟨x, r, rfl, rfl, rfl⟩ | ⟨x, y, r, hc, hc', rfl, rfl, rfl⟩
    · exact XT.dup2L hA hx rfl hd rfl hr
    · exact XT.dup2 hA hx rfl hd rfl hc hc' hr
  case pop => obtain ⟨x, r, hc, rfl, rfl, rfl⟩ := pp_inv h; exact XT.pop hA hx rfl hd rfl hc hr
  case goto o => obtain ⟨rfl, ho, rfl⟩ := gt_inv h; exact XS.goto hA hx rfl rfl hd ho rfl hr
  case iinc k d => obtain ⟨x, l', rfl, hl, hl', rfl⟩ := inc_inv h; exact XS.iinc hA hx rfl hd (arrL hl) hl' hr
  all_goals exact absurd (show (none : Option Cf) = some z from h) (by simp)
def runB : Nat → Prog → Nat → List Slot → List Value → Option Cf
  | 0, _, pc, ls, st => some (pc, ls, st)
  | _ + 1, [], _, _, _ => none
  | k + 1, (q, i, n) :: B, pc, ls, st => if q = pc then (match st1 i n pc ls st with
    | some z => runB k B z.1 z.2.1 z.2.2
    | none => none) else none
theorem runB_ok {p : Program} {e : Env} {below : List Frame} {T target : State} {m : MethodId} {c : Code} (hA : At T m c below) (hx : p.tables.exec = Jvm.exec) {z : Cf} (hr : Steps p.tables e below (T.setTop (mkF m z.1 z.2.1.toArray z.2.2)) target) :
    ∀ (k : Nat) (B : Prog), okB c.code B = true → ∀ (pc : Nat) (ls : List Slot) (st : List Value), runB k B pc ls st = some z → Steps p.tables e below (T.setTop (mkF m pc ls.toArray st)) target
  | 0, B, _, pc, ls, st, h => by
    cases B <;> (unfold runB at h; cases h; exact hr)
  | k + 1, [], _, pc, ls, st, h => by unfold runB at h; cases h
  | k + 1, (q, i, n) :: B, hB, pc, ls, st, h => by
    unfold runB at h
    split at h
    · rename_i e; subst e
      split at h
      · rename_i w hw
        simp only [okB, Bool.and_eq_true, decide_eq_true_eq] at hB
        exact st1_ok hA hx hB.1 hw (runB_ok hA hx hr k B hB.2 _ _ _ h)
      · cases h
    · cases h
theorem okB_drop {code : ByteArray} : ∀ (j : Nat) {B : Prog}, okB code B = true → okB code (B.drop j) = true
  | 0, _, h => h
  | _ + 1, [], _ => rfl
  | j + 1, _ :: B, h => by
    simp only [okB, Bool.and_eq_true] at h
    exact okB_drop j h.2
end Jvm.Wk
namespace Jvm.Wk
open Sem ClassFile Op Lib Jvm.Stand Jvm.Free Jvm.LawKit Jvm.RoadKit
/-! THE WALK'S GOAL, over the symbolic heap: from this configuration the invocation returns, and what it returns and leaves is as G says. -/
abbrev Cxt : Type := Launch × Program × Env × Room × State × MethodId × Array Value × List Frame × Method × Code × State × List (String × Nat) × Bool × (Option Value → List Item → Prop) × List Item
def Fin (R : Room) (s : State) (Z : State) (EL : List (String × Nat)) (nw : Bool) (G : Option Value → List Item → Prop) (F : List Item) (o : Outcome) (t : State) : Prop :=
  ∃ (v : Option Value) (Lc : List Loc) (L' : List Item), o = .returned v ∧ G v L' ∧ Hp Z EL t.vm t.heap (L' ++ F) ∧ Fr Z.heap.size Lc ∧ (nw = true → s.WarmedH t.vm) ∧ s.heap.size ≤ t.heap.size ∧ ReturnedEndW s o t Lc R.cells R.slots
def Wp : Cxt → Nat → Nat → List Item → Nat → List Slot → List Value → Prop
  | (l, p, e, R, s, m, args, below, meth, c, Z, EL, nw, G, F), cells, slots, L, pc, ls, st =>
    ∀ (vm0 : Vm) (k0 : Nat) (T : State) (locs : List Loc), Stand p l e R (s.setVm vm0) m args below meth c T locs cells slots → s.Since vm0 k0 → k0 ≤ T.heap.size → (nw = true → s.WarmedH vm0) → Z.Warmed39 vm0 → Fr Z.heap.size locs → s.heap.size ≤ T.heap.size → Hp Z EL vm0 T.heap (L ++ F) →
      ∃ t o, Steps p.tables e below (T.setTop (mkF m pc ls.toArray st)) t ∧ t.status = .running ∧ Ended t below o ∧ Fin R s Z EL nw G F o t
def Cx (K : Cxt) (l : Launch) (Z : State) (a0 : Array Value) (EL : List (String × Nat)) (nw : Bool) (y : MethodName) (bytes : ByteArray) (maxL : Nat) (ret : Option FieldType) (rm : Room) (G : Option Value → List Item → Prop) (B : Prog) : Prop :=
  ∃ (p : Program) (e : Env) (s : State) (m : MethodId) (args : Array Value) (below : List Frame) (meth : Method) (c : Code) (F : List Item), K = (l, p, e, rm, s, m, args, below, meth, c, Z, EL, nw, G, F) ∧ p.tables.exec = Jvm.exec ∧ c.code = bytes ∧ c.maxLocals = maxL ∧ meth.sig.returnType = ret ∧ meth.locks = false ∧ s.vm.findClass y.cls = some m.cls ∧ meth.name = y.name ∧ EW Z a0 EL ∧ okB bytes B = true
/-- A BODY's CONTRACT: asked at the arguments 'as' in a heap that holds L and whatever else (F); it gives back v and the items L' (F as it was) -/
def Ct (l : Launch) (Z : State) (EL : List (String × Nat)) (nw : Bool) (y : MethodName) (bytes : ByteArray) (maxL : Nat) (ret : Option FieldType) (ws : List Cond) (rm : Room) (as : List Value) (L : List Item) (G : Option Value → List Item → Prop) : Prop :=
  ∀ F : List Item, MetFree l y (head1 (Cond.code y bytes maxL ret :: ws) rm) (fun a U => a = as.toArray ∧ Z.Warmed39 U.vm ∧ Hp Z EL U.vm U.heap (L ++ F)) (fun _ _ _ _ _ => True) (fun _ U o U' => Fin rm U Z EL nw G F o U')
section Rules
variable {K : Cxt} {l : Launch} {Z : State} {a0 : Array Value} {EL : List (String × Nat)} {nw : Bool} {y : MethodName} {bytes : ByteArray} {maxL : Nat} {ret : Option FieldType} {rm : Room} {G : Option Value → List Item → Prop} {B : Prog} {cells slots pc j : Nat} {L : List Item} {ls : List Slot} {st : List Value}
theorem Hp.at {p : Program} {e : Env} {R : Room} {s : State} {m : MethodId} {args : Array Value} {below : List Frame} {meth : Method} {c : Code} {T : State} {locs : List Loc} {vm0 : Vm} {h : Heap} (X : Stand p l e R (s.setVm vm0) m args below meth c T locs cells slots) (hZ : Z.Warmed39 vm0) (w : EW Z a0 EL) (H : Hp Z EL vm0 h L) : Hp Z EL T.vm h L :=
  H.later ⟨Nat.le_refl _, fun _ _ q => q⟩ (CHv.at X hZ w H.2.1)
theorem ct_of {as : List Value} {ws : List Cond} (hpl : plainFor y = true) (hB : okB bytes B = true) (hEL : EW Z a0 EL) (he : ∀ m : MethodId, entryFrame m as.toArray maxL = mkF m 0 ls.toArray [])
    (body : ∀ K, Cx K l Z a0 EL nw y bytes maxL ret rm G B → Wp K 0 0 L 0 ls []) : Ct l Z EL nw y bytes maxL ret ws rm as L G := by
  intro F
  refine MetFree.of_bodySF hpl hisR ?_
  intro p e s m args below meth c s₁ Bd hml0 hP hK
  obtain ⟨rfl, hZ, hH⟩ := hP
  have X0 : Stand p l e rm (s.setVm s.vm) m as.toArray below meth c s₁ [] 0 0 := Stand.of_body Bd
  have hh : s₁.heap = s.heap := by rw [Bd.state]; rfl
  have hb := body (l, p, e, rm, s, m, as.toArray, below, meth, c, Z, EL, nw, G, F) ⟨p, e, s, m, as.toArray, below, meth, c, F, rfl, Bd.exec, Bd.bytes, hml0, Bd.returns, Bd.notSynchronized, findClass_of_methodNamed Bd.named, (name_of_methodNamed Bd.named Bd.method).1, hEL, hB⟩
  obtain ⟨t, o, h1, h2, h3, h4⟩ := hb s.vm 0 s₁ [] X0 ((State.WarmedH.refl s).since 0) (Nat.zero_le _) (fun _ => State.WarmedH.refl s) hZ (Fr.nil _) (Nat.le_of_eq (by rw [hh])) (by rw [hh]; exact hH)
  exact ⟨t, o, castTop (he m) h1, h2, h3, h4⟩
theorem ct_ws {as : List Value} (h : ∀ ws, Ct l Z EL nw y bytes maxL ret ws rm as L G) : Ct l Z EL nw y bytes maxL ret [] rm as L G := h []
theorem wp_blk (C : Cx K l Z a0 EL nw y bytes maxL ret rm G B) (j n : Nat) {pc' : Nat} {ls' : List Slot} {st' : List Value} (hr : runB n (B.drop j) pc ls st = some (pc', ls', st')) (k : Wp K cells slots L pc' ls' st') : Wp K cells slots L pc ls st := by
  obtain ⟨p, e, s, m, args, below, meth, c, F, rfl, hx, hb, -, -, -, -, -, -, hB⟩ := C
  intro vm0 k0 T locs X hS hk hn hZ hF hg hH
  obtain ⟨t, o, h1, h2⟩ := k vm0 k0 T locs X hS hk hn hZ hF hg hH
  exact ⟨t, o, runB_ok X.here hx h1 n (B.drop j) (by rw [hb]; exact okB_drop j hB) pc ls st hr, h2⟩
/-- a step that leaves the heap and moves the tables at most -/
theorem wp_step (C : Cx K l Z a0 EL nw y bytes maxL ret rm G B) {pc' : Nat} {ls' : List Slot} {st' : List Value}
    (hs : ∀ (p : Program) (e : Env) (s : State) (m : MethodId) (args : Array Value) (below : List Frame) (meth : Method) (c : Code) (vm0 : Vm) (T : State) (locs : List Loc) (F : List Item), p.tables.exec = Jvm.exec → c.code = bytes → c.maxLocals = maxL → (s.setVm vm0).vm.findClass y.cls = some m.cls → Z.Warmed39 vm0 → Hp Z EL vm0 T.heap (L ++ F) →
      Stand p l e rm (s.setVm vm0) m args below meth c T locs cells slots → ∃ T', Stand p l e rm (s.setVm vm0) m args below meth c T' locs cells slots ∧ T'.heap = T.heap ∧ ∀ target, Steps p.tables e below (T'.setTop (mkF m pc' ls'.toArray st')) target → Steps p.tables e below (T.setTop (mkF m pc ls.toArray st)) target)
    (k : Wp K cells slots L pc' ls' st') : Wp K cells slots L pc ls st := by
  obtain ⟨p, e, s, m, args, below, meth, c, F, rfl, hx, hb, hml, hret, hlk, hown, hnm, hEL, hB⟩ := C
  intro vm0 k0 T locs X hS hk hn hZ hF hg hH
  obtain ⟨T', X', eh, stp⟩ := hs p e s m args below meth c vm0 T locs F hx hb hml (by rw [show (s.setVm vm0).vm = vm0 from rfl, hS.1.alike.findClass]; exact hown) hZ hH X
  obtain ⟨t, o, h1, h2⟩ := k vm0 k0 T' locs X' hS (by rw [eh]; exact hk) hn hZ hF (by rw [eh]; exact hg) (by rw [eh]; exact hH)
  exact ⟨t, o, stp t h1, h2⟩
/-- a step that makes one cell -/
theorem wp_make (C : Cx K l Z a0 EL nw y bytes maxL ret rm G B) {pc' cells' slots' : Nat} {ls' : List Slot} {st' : Addr → List Value} {D : Kd ⊕ FieldType} {vs : List Value}
    (hs : ∀ (p : Program) (e : Env) (s : State) (m : MethodId) (args : Array Value) (below : List Frame) (meth : Method) (c : Code) (vm0 : Vm) (T : State) (locs : List Loc), p.tables.exec = Jvm.exec → c.code = bytes → (s.setVm vm0).vm.findClass y.cls = some m.cls → Z.Warmed39 vm0 →
      Stand p l e rm (s.setVm vm0) m args below meth c T locs cells slots → ∃ T', Stand p l e rm (s.setVm vm0) m args below meth c T' locs cells' slots' ∧ Ext T.heap T'.heap ∧ It Z T'.heap (T.heap.size, true, D, vs) ∧ ∀ target, Steps p.tables e below (T'.setTop (mkF m pc' ls'.toArray (st' T.heap.size))) target → Steps p.tables e below (T.setTop (mkF m pc ls.toArray st)) target)
    (k : ∀ a : Addr, Wp K cells' slots' ((a, true, D, vs) :: L) pc' ls' (st' a)) : Wp K cells slots L pc ls st := by
  obtain ⟨p, e, s, m, args, below, meth, c, F, rfl, hx, hb, hml, hret, hlk, hown, hnm, hEL, hB⟩ := C
  intro vm0 k0 T locs X hS hk hn hZ hF hg hH
  obtain ⟨T', X', E, I, stp⟩ := hs p e s m args below meth c vm0 T locs hx hb (by rw [show (s.setVm vm0).vm = vm0 from rfl, hS.1.alike.findClass]; exact hown) hZ X
  obtain ⟨t, o, h1, h2⟩ := k T.heap.size vm0 k0 T' locs X' hS (Nat.le_trans hk E.1) hn hZ hF (Nat.le_trans hg E.1) (hH.push E I)
  exact ⟨t, o, stp t h1, h2⟩
/-- a step that writes one place of one known, new cell -/
theorem wp_write (C : Cx K l Z a0 EL nw y bytes maxL ret rm G B) {pc' i : Nat} {ls' : List Slot} {st' : List Value} {a : Addr} {D : Kd ⊕ FieldType} {vs vs' : List Value} (hi : L[i]? = some (a, true, D, vs))
    (hs : ∀ (p : Program) (e : Env) (s : State) (m : MethodId) (args : Array Value) (below : List Frame) (meth : Method) (c : Code) (vm0 : Vm) (T : State) (locs : List Loc), p.tables.exec = Jvm.exec → c.code = bytes → (s.setVm vm0).vm.findClass y.cls = some m.cls → meth.name = y.name → Z.Warmed39 vm0 → It Z T.heap (a, true, D, vs) →
      Stand p l e rm (s.setVm vm0) m args below meth c T locs cells slots → ∃ T' sl v, Stand p l e rm (s.setVm vm0) m args below meth c T' (locs ++ [⟨a, sl⟩]) cells slots ∧ Wr T.heap T'.heap a sl v ∧ It Z T'.heap (a, true, D, vs') ∧ ∀ target, Steps p.tables e below (T'.setTop (mkF m pc' ls'.toArray st')) target → Steps p.tables e below (T.setTop (mkF m pc ls.toArray st)) target)
    (k : Wp K cells slots (L.set i (a, true, D, vs')) pc' ls' st') : Wp K cells slots L pc ls st := by
  obtain ⟨p, e, s, m, args, below, meth, c, F, rfl, hx, hb, hml, hret, hlk, hown, hnm, hEL, hB⟩ := C
  intro vm0 k0 T locs X hS hk hn hZ hF hg hH
  obtain ⟨T', sl, v, X', W, I, stp⟩ := hs p e s m args below meth c vm0 T locs hx hb (by rw [show (s.setVm vm0).vm = vm0 from rfl, hS.1.alike.findClass]; exact hown) hnm hZ (hH.2.2.1 _ (List.mem_of_getElem? (app_at hi))) X
  have hH' := hH.put (app_at hi) W I
  rw [app_set hi] at hH'
  obtain ⟨t, o, h1, h2⟩ := k vm0 k0 T' _ X' hS (by rw [W.size]; exact hk) hn hZ (Fr.snoc X' hF (hH.new (app_at hi)).1) (by rw [W.size]; exact hg) hH'
  exact ⟨t, o, stp t h1, h2⟩
/-- the world in another order; fewer of it; more of it (old objects) -/
theorem wp_perm {L' : List Item} (C : Cx K l Z a0 EL nw y bytes maxL ret rm G B) (q : L.Perm L') (k : Wp K cells slots L' pc ls st) : Wp K cells slots L pc ls st := by
  obtain ⟨p, e, s, m, args, below, meth, c, F, rfl, -⟩ := C
  intro vm0 k0 T locs X hS hk hn hZ hF hg hH
  exact k vm0 k0 T locs X hS hk hn hZ hF hg (hH.perm (q.append_right F))
theorem wp_sub {L' : List Item} (C : Cx K l Z a0 EL nw y bytes maxL ret rm G B) (q : L'.Sublist L) (k : Wp K cells slots L' pc ls st) : Wp K cells slots L pc ls st := by
  obtain ⟨p, e, s, m, args, below, meth, c, F, rfl, -⟩ := C
  intro vm0 k0 T locs X hS hk hn hZ hF hg hH
  exact k vm0 k0 T locs X hS hk hn hZ hF hg (hH.sub (q.append_right F))
theorem wp_old {a : Addr} {D : Kd ⊕ FieldType} {vs : List Value} (C : Cx K l Z a0 EL nw y bytes maxL ret rm G B) (I : It Z Z.heap (a, false, D, vs)) (k : Wp K cells slots ((a, false, D, vs) :: L) pc ls st) : Wp K cells slots L pc ls st := by
  obtain ⟨p, e, s, m, args, below, meth, c, F, rfl, -⟩ := C
  intro vm0 k0 T locs X hS hk hn hZ hF hg hH
  refine k vm0 k0 T locs X hS hk hn hZ hF hg (hH.add (fun q hq hw => Nat.ne_of_lt (Nat.lt_of_lt_of_le I.lt (hH.2.2.2.2 q hq hw).1)) (I.ext hH.1))
def front (i : Nat) (L : List Item) : List Item := match L[i]? with
  | some x => x :: L.eraseIdx i
  | none => L
theorem er_perm : ∀ (i : Nat) (L : List Item) (x : Item), L[i]? = some x → L.Perm (x :: L.eraseIdx i)
  | _, [], _, h => by simp at h
  | 0, z :: L, x, h => by
    simp only [List.getElem?_cons_zero, Option.some.injEq] at h
    subst h; exact List.Perm.refl _
  | i + 1, z :: L, x, h => by
    rw [List.getElem?_cons_succ] at h
    exact (List.Perm.cons z (er_perm i L x h)).trans (List.Perm.swap x z _)
theorem front_perm (i : Nat) (L : List Item) : L.Perm (front i L) := by
  unfold front
  split
  · rename_i x hx
    exact er_perm i L x hx
  · exact List.Perm.refl _
theorem wp_front (C : Cx K l Z a0 EL nw y bytes maxL ret rm G B) (i : Nat) {L' : List Item} (e : front i L = L') (k : Wp K cells slots L' pc ls st) : Wp K cells slots L pc ls st := wp_perm C (e ▸ front_perm i L) k
theorem wp_drop (C : Cx K l Z a0 EL nw y bytes maxL ret rm G B) (i : Nat) {L' : List Item} (e : L.eraseIdx i = L') (k : Wp K cells slots L' pc ls st) : Wp K cells slots L pc ls st := wp_sub C (e ▸ List.eraseIdx_sublist L i) k
theorem stand_mono {p : Program} {e : Env} {R : Room} {s : State} {m : MethodId} {args : Array Value} {below : List Frame} {meth : Method} {c : Code} {T : State} {locs : List Loc} {cells slots cells' slots' : Nat} (X : Stand p l e R s m args below meth c T locs cells slots) (h1 : cells ≤ cells') (h2 : slots ≤ slots') : Stand p l e R s m args below meth c T locs cells' slots' :=
  ⟨X.admits, X.cas, X.clock, X.frames, X.room, X.hears, X.method, X.code, X.here, X.tail, X.warmed, X.limits, X.bytes, X.same.mono h1 h2⟩
/-- more booked than used -/
theorem wp_mono {cells' slots' : Nat} (C : Cx K l Z a0 EL nw y bytes maxL ret rm G B) (h1 : cells ≤ cells') (h2 : slots ≤ slots') (k : Wp K cells' slots' L pc ls st) : Wp K cells slots L pc ls st := by
  obtain ⟨p, e, s, m, args, below, meth, c, F, rfl, -⟩ := C
  intro vm0 k0 T locs X hS hk hn hZ hF hg hH
  exact k vm0 k0 T locs (stand_mono X h1 h2) hS hk hn hZ hF hg hH
/-! branches -/
theorem Cx.dec (C : Cx K l Z a0 EL nw y bytes maxL ret rm G B) {i : Instr} {n : Nat} (hi : B[j]? = some (pc, i, n)) {c : Code} (hb : c.code = bytes) : decode c.code pc = .ok (i, n) := by
  obtain ⟨p', e', s', m', args', below', meth', c', F', -, -, -, -, -, -, -, -, -, hB⟩ := C
  rw [hb]; exact okB_at hB hi
theorem wp_if (C : Cx K l Z a0 EL nw y bytes maxL ret rm G B) {cd : ClassFile.Cond} {o : Int} {pc' : Nat} {x : Int32} (j : Nat) (hi : B[j]? = some (pc, .ifCond cd o, 3)) (hp : ((pc : Int) + o).toNat = pc') (ho : 0 ≤ (pc : Int) + o)
    (k1 : ifCond.holds cd x = true → Wp K cells slots L pc' ls st) (k2 : ifCond.holds cd x = false → Wp K cells slots L (pc + 3) ls st) : Wp K cells slots L pc ls (.int x :: st) := by
  cases hc : ifCond.holds cd x with
  | true => exact wp_step C (fun p e s m args below meth c vm0 T locs F hx hb hml hown hZ hH X => ⟨T, X, rfl, fun t h => XS.ifYes X.here hx rfl rfl (C.dec hi hb) rfl hc ho hp h⟩) (k1 hc)
  | false => exact wp_step C (fun p e s m args below meth c vm0 T locs F hx hb hml hown hZ hH X => ⟨T, X, rfl, fun t h => XS.ifNo X.here hx rfl (C.dec hi hb) rfl hc h⟩) (k2 hc)
theorem wp_ic (C : Cx K l Z a0 EL nw y bytes maxL ret rm G B) {cd : ClassFile.Cond} {o : Int} {pc' : Nat} {x z : Int32} (j : Nat) (hi : B[j]? = some (pc, .if_icmp cd o, 3)) (hp : ((pc : Int) + o).toNat = pc') (ho : 0 ≤ (pc : Int) + o)
    (k1 : if_icmp.holds cd x z = true → Wp K cells slots L pc' ls st) (k2 : if_icmp.holds cd x z = false → Wp K cells slots L (pc + 3) ls st) : Wp K cells slots L pc ls (.int z :: .int x :: st) := by
  cases hc : if_icmp.holds cd x z with
  | true => exact wp_step C (fun p e s m args below meth c vm0 T locs F hx hb hml hown hZ hH X => ⟨T, X, rfl, fun t h => XS.icmpYes X.here hx rfl rfl (C.dec hi hb) rfl hc ho hp h⟩) (k1 hc)
  | false => exact wp_step C (fun p e s m args below meth c vm0 T locs F hx hb hml hown hZ hH X => ⟨T, X, rfl, fun t h => XS.icmpNo X.here hx rfl (C.dec hi hb) rfl hc h⟩) (k2 hc)
def cT (cd : ClassFile.Cond) (x z : Int32) : Prop := match cd with
  | .eq => x = z | .ne => x ≠ z | .lt => x.toInt < z.toInt | .ge => z.toInt ≤ x.toInt | .gt => z.toInt < x.toInt | .le => x.toInt ≤ z.toInt
def cF (cd : ClassFile.Cond) (x z : Int32) : Prop := match cd with
  | .eq => x ≠ z | .ne => x = z | .lt => z.toInt ≤ x.toInt | .ge => x.toInt < z.toInt | .gt => x.toInt ≤ z.toInt | .le => z.toInt < x.toInt
theorem ic_t {cd : ClassFile.Cond} {x z : Int32} (h : if_icmp.holds cd x z = true) : cT cd x z := by
  cases cd <;> simp_all [if_icmp.holds, cT, Int32.lt_iff_toInt_lt, Int32.le_iff_toInt_le]
theorem ic_f {cd : ClassFile.Cond} {x z : Int32} (h : if_icmp.holds cd x z = false) : cF cd x z := by
  cases cd <;> simp_all [if_icmp.holds, cF, Int32.lt_iff_toInt_lt, Int32.le_iff_toInt_le]
theorem wp_icmp (C : Cx K l Z a0 EL nw y bytes maxL ret rm G B) {cd : ClassFile.Cond} {o : Int} {x z : Int32} (j pc' pc2 : Nat) (hi : B[j]? = some (pc, .if_icmp cd o, 3)) (hp : ((pc : Int) + o).toNat = pc') (h2 : pc + 3 = pc2) (ho : 0 ≤ (pc : Int) + o)
    (k1 : cT cd x z → Wp K cells slots L pc' ls st) (k2 : cF cd x z → Wp K cells slots L pc2 ls st) : Wp K cells slots L pc ls (.int z :: .int x :: st) := by
  subst h2; exact wp_ic C j hi hp ho (fun h => k1 (ic_t h)) (fun h => k2 (ic_f h))
theorem wp_ifz (C : Cx K l Z a0 EL nw y bytes maxL ret rm G B) {cd : ClassFile.Cond} {o : Int} {x : Int32} (j pc' pc2 : Nat) (hi : B[j]? = some (pc, .ifCond cd o, 3)) (hp : ((pc : Int) + o).toNat = pc') (h2 : pc + 3 = pc2) (ho : 0 ≤ (pc : Int) + o)
    (k1 : cT cd x 0 → Wp K cells slots L pc' ls st) (k2 : cF cd x 0 → Wp K cells slots L pc2 ls st) : Wp K cells slots L pc ls (.int x :: st) := by
  subst h2; exact wp_if C j hi hp ho (fun h => k1 (ic_t (by rw [← if0]; exact h))) (fun h => k2 (ic_f (by rw [← if0]; exact h)))
theorem wp_nullY (C : Cx K l Z a0 EL nw y bytes maxL ret rm G B) {o : Int} (j pc' : Nat) (hi : B[j]? = some (pc, .ifnull o, 3)) (hp : ((pc : Int) + o).toNat = pc') (ho : 0 ≤ (pc : Int) + o) (k : Wp K cells slots L pc' ls st) : Wp K cells slots L pc ls (.null :: st) :=
  wp_step C (fun p e s m args below meth c vm0 T locs F hx hb hml hown hZ hH X => ⟨T, X, rfl, fun t h => XS.ifnullYes X.here hx rfl rfl (C.dec hi hb) rfl ho hp h⟩) k
theorem wp_nullN (C : Cx K l Z a0 EL nw y bytes maxL ret rm G B) {o : Int} {b : Addr} (j pc' : Nat) (hi : B[j]? = some (pc, .ifnull o, 3)) (hp : pc + 3 = pc') (k : Wp K cells slots L pc' ls st) : Wp K cells slots L pc ls (.ref b :: st) := by
  subst hp
  exact wp_step C (fun p e s m args below meth c vm0 T locs F hx hb hml hown hZ hH X => ⟨T, X, rfl, fun t h => XS.ifnullNo X.here hx rfl (C.dec hi hb) rfl h⟩) k
theorem wp_nonnullY (C : Cx K l Z a0 EL nw y bytes maxL ret rm G B) {o : Int} {b : Addr} (j pc' : Nat) (hi : B[j]? = some (pc, .ifnonnull o, 3)) (hp : ((pc : Int) + o).toNat = pc') (ho : 0 ≤ (pc : Int) + o) (k : Wp K cells slots L pc' ls st) : Wp K cells slots L pc ls (.ref b :: st) :=
  wp_step C (fun p e s m args below meth c vm0 T locs F hx hb hml hown hZ hH X => ⟨T, X, rfl, fun t h => XT.ifnonnullYes X.here hx rfl rfl (C.dec hi hb) rfl ho hp h⟩) k
theorem wp_nonnullN (C : Cx K l Z a0 EL nw y bytes maxL ret rm G B) {o : Int} (j pc' : Nat) (hi : B[j]? = some (pc, .ifnonnull o, 3)) (hp : pc + 3 = pc') (k : Wp K cells slots L pc' ls st) : Wp K cells slots L pc ls (.null :: st) := by
  subst hp
  exact wp_step C (fun p e s m args below meth c vm0 T locs F hx hb hml hown hZ hH X => ⟨T, X, rfl, fun t h => XT.ifnonnullNo X.here hx rfl (C.dec hi hb) rfl h⟩) k
theorem wp_acY (C : Cx K l Z a0 EL nw y bytes maxL ret rm G B) {cd : ACond} {o : Int} {u w : Value} (j pc' : Nat) (hi : B[j]? = some (pc, .if_acmp cd o, 3)) (hu : u.isRef = true) (hw : w.isRef = true) (hc : XT.acmp cd u w = true) (hp : ((pc : Int) + o).toNat = pc') (ho : 0 ≤ (pc : Int) + o) (k : Wp K cells slots L pc' ls st) : Wp K cells slots L pc ls (w :: u :: st) :=
  wp_step C (fun p e s m args below meth c vm0 T locs F hx hb hml hown hZ hH X => ⟨T, X, rfl, fun t h => XT.acmpYes X.here hx rfl rfl (C.dec hi hb) rfl hu hw hc ho hp h⟩) k
theorem wp_acN (C : Cx K l Z a0 EL nw y bytes maxL ret rm G B) {cd : ACond} {o : Int} {u w : Value} (j pc' : Nat) (hi : B[j]? = some (pc, .if_acmp cd o, 3)) (hu : u.isRef = true) (hw : w.isRef = true) (hc : XT.acmp cd u w = false) (hp : pc + 3 = pc') (k : Wp K cells slots L pc' ls st) : Wp K cells slots L pc ls (w :: u :: st) := by
  subst hp
  exact wp_step C (fun p e s m args below meth c vm0 T locs F hx hb hml hown hZ hH X => ⟨T, X, rfl, fun t h => XT.acmpNo X.here hx rfl (C.dec hi hb) rfl hu hw hc h⟩) k
/-! division -/
theorem wp_irem (C : Cx K l Z a0 EL nw y bytes maxL ret rm G B) {x z : Int32} (j pc' : Nat) (hi : B[j]? = some (pc, .irem, 1)) (hp : pc + 1 = pc') (hz : z ≠ 0) (k : Wp K cells slots L pc' ls (.int (x % z) :: st)) : Wp K cells slots L pc ls (.int z :: .int x :: st) := by
  subst hp
  exact wp_step C (fun p e s m args below meth c vm0 T locs F hx hb hml hown hZ hH X => ⟨T, X, rfl, fun t h => iremM X hx rfl (C.dec hi hb) rfl hz h⟩) k
theorem wp_idiv (C : Cx K l Z a0 EL nw y bytes maxL ret rm G B) {x z : Int32} (j pc' : Nat) (hi : B[j]? = some (pc, .idiv, 1)) (hp : pc + 1 = pc') (hz : z ≠ 0) (k : Wp K cells slots L pc' ls (.int (x / z) :: st)) : Wp K cells slots L pc ls (.int z :: .int x :: st) := by
  subst hp
  exact wp_step C (fun p e s m args below meth c vm0 T locs F hx hb hml hown hZ hH X => ⟨T, X, rfl, fun t h => XS.idiv X.here hx rfl (C.dec hi hb) rfl hz h⟩) k
/-! constants -/
theorem wp_ldcI (C : Cx K l Z a0 EL nw y bytes maxL ret rm G B) {z : Int32} {ix : Nat} (j pc' : Nat) (hi : B[j]? = some (pc, .ldc ix, 2)) (hp : pc + 2 = pc') (w : (Cond.constant y.cls ix z).before a0 Z = true) (k : Wp K cells slots L pc' ls (.int z :: st)) : Wp K cells slots L pc ls st := by
  subst hp
  exact wp_step C (fun p e s m args below meth c vm0 T locs F hx hb hml hown hZ hH X => ⟨T, X, rfl, by
      have w' : (Cond.constant y.cls ix z).before args (s.setVm vm0) = true := mvT (args := args) (s := s.setVm vm0) hZ w
      exact X.ldcInt hx hown w' (g := mkF m pc ls.toArray st) rfl (C.dec hi hb)⟩) k
theorem wp_ldcJ (C : Cx K l Z a0 EL nw y bytes maxL ret rm G B) {z : Int64} {ix : Nat} (j pc' : Nat) (hi : B[j]? = some (pc, .ldc2_w ix, 3)) (hp : pc + 3 = pc') (w : (Cond.constantLong y.cls ix z).before a0 Z = true) (k : Wp K cells slots L pc' ls (.long z :: st)) : Wp K cells slots L pc ls st := by
  subst hp
  exact wp_step C (fun p e s m args below meth c vm0 T locs F hx hb hml hown hZ hH X => ⟨T, X, rfl, by
      have w' : (Cond.constantLong y.cls ix z).before args (s.setVm vm0) = true := mvT (args := args) (s := s.setVm vm0) hZ w
      exact X.ldc2Long hx hown w' (g := mkF m pc ls.toArray st) rfl (C.dec hi hb)⟩) k
/-! fields -/
theorem wp_get (C : Cx K l Z a0 EL nw y bytes maxL ret rm G B) {ix : Nat} {R0 O n d : String} {a : Addr} {w : Bool} {Kc : Kd} {vs : List Value} {v : Value} (j pc' i f : Nat) (hi : B[j]? = some (pc, .getfield ix, 3)) (hp : pc + 3 = pc') (lk : (Cond.fieldLink y.cls ix R0 n d).before a0 Z = true) (via : Via Z R0 O n d)
    (hL : L[i]? = some (a, w, .inl Kc, vs)) (hf : Kc.2[f]? = some (O, n, d)) (hv : vs[f]? = some v) (k : Wp K cells slots L pc' ls (v :: st)) : Wp K cells slots L pc ls (.ref a :: st) := by
  subst hp
  exact wp_step C (fun p e s m args below meth c vm0 T locs F hx hb hml hown hZ hH X => getF (host := "") X hx (s := s.setVm vm0) hZ hown (Or.inl lk) via rfl ((hH.obj (app_at hL)).2 f _ _ hf hv) (g := mkF m pc ls.toArray (.ref a :: st)) rfl rfl (C.dec hi hb)) k
theorem wp_getS (C : Cx K l Z a0 EL nw y bytes maxL ret rm G B) {ix : Nat} {R0 O n d : String} {v : Value} (j pc' : Nat) (hi : B[j]? = some (pc, .getstatic ix, 3)) (hp : pc + 3 = pc') (lk : (Cond.fieldLink y.cls ix R0 n d).before a0 Z = true) (via : Via Z R0 O n d) (S : Sta Z Z.heap O n d v)
    (k : Wp K cells slots L pc' ls (v :: st)) : Wp K cells slots L pc ls st := by
  subst hp
  exact wp_step C (fun p e s m args below meth c vm0 T locs F hx hb hml hown hZ hH X => getS2 (host := "") X hx (s := s.setVm vm0) hZ hown (Or.inl lk) via rfl (S.ext hH.1) (g := mkF m pc ls.toArray st) rfl (C.dec hi hb)) k
theorem wp_put (C : Cx K l Z a0 EL nw y bytes maxL ret rm G B) {ix kk : Nat} {R0 O n d : String} {ty : FieldType} {a : Addr} {Kc : Kd} {vs vs' : List Value} {u v : Value} (j pc' i f : Nat) (hi : B[j]? = some (pc, .putfield ix, 3)) (hp : pc + 3 = pc') (lk : (Cond.fieldLink y.cls ix R0 n d).before a0 Z = true) (via : Via Z R0 O n d)
    (lw : (Cond.lays Kc.1 O n d).before a0 Z = true ∨ ((Cond.laysFinal Kc.1 O n d).before a0 Z = true ∧ y.cls = O ∧ y.name = "<init>")) (wi : (Cond.instantiable Kc.1 kk).before a0 Z = true) (ko : KOk Z a0 Kc) (hty : parseFieldDescriptor d = some ty) (hnr : narrow ty u = v) (hft : fits ty v = true)
    (hL : L[i]? = some (a, true, .inl Kc, vs)) (hf : Kc.2[f]? = some (O, n, d)) {ov : Value} (hov : vs[f]? = some ov) (hs : vs.set f v = vs') {L' : List Item} (hL' : L.set i (a, true, .inl Kc, vs') = L') (k : Wp K cells slots L' pc' ls st) : Wp K cells slots L pc ls (u :: .ref a :: st) := by
  subst hp hs hL'
  refine wp_write C hL (fun p e s m args below meth c vm0 T locs hx hb hown hnm hZ hI X => ?_) k
  have hI0 : Ob Z T.heap a Kc vs ∧ (true = true → Unt T.heap a) := hI
  have hI' := hI0.1
  have hlt := (List.getElem?_eq_some_iff.mp hov).1
  obtain ⟨T', h', X', rfl, W, stp⟩ := putFN X hx (s := s.setVm vm0) hZ hown lk via rfl (hI'.2 f _ _ hf (List.getElem?_eq_getElem hlt)) hI'.1 (lw.imp id fun q => ⟨q.1, q.2.1, by rw [hnm]; exact q.2.2⟩) wi hty hnr hft (g := mkF m pc ls.toArray (u :: .ref a :: st)) rfl rfl (C.dec hi hb)
  exact ⟨T', _, _, X', W, ⟨Ob.set ko hf W hI' hlt, fun _ => unt_wr W (hI0.2 rfl)⟩, stp⟩
/-! making -/
def defs (Kc : Kd) : List Value := Kc.2.map fun f => defaultValue ((parseFieldDescriptor f.2.2).getD .int)
theorem wp_new (C : Cx K l Z a0 EL nw y bytes maxL ret rm G B) {ix n : Nat} {Kc : Kd} {vs : List Value} (j pc' : Nat) (hi : B[j]? = some (pc, .new ix, 3)) (hp : pc + 3 = pc') (lk : (Cond.classLink y.cls ix Kc.1).before a0 Z = true) (wi : (Cond.instantiable Kc.1 n).before a0 Z = true) (wz : (Cond.initialized Kc.1).before a0 Z = true) (ko : KOk Z a0 Kc)
    (hv : defs Kc = vs) {cells' slots' : Nat} (hc : cells + 1 = cells') (hl : slots + n = slots') (hc' : cells' ≤ rm.cells) (hl' : slots' ≤ rm.slots) (k : ∀ a : Addr, Wp K cells' slots' ((a, true, .inl Kc, vs) :: L) pc' ls (.ref a :: st)) : Wp K cells slots L pc ls st := by
  subst hp hv hc hl
  refine wp_make C (st' := fun a => .ref a :: st) (fun p e s m args below meth c vm0 T locs hx hb hown hZ X => ?_) k
  obtain ⟨T', h', X', rfl, E, A, D, Un, stp⟩ := newO X hx (s := s.setVm vm0) hZ hown lk wi wz rfl (g := mkF m pc ls.toArray st) rfl (C.dec hi hb) hc' hl'
  refine ⟨T', X', E, ⟨⟨A, fun i f v hf hv => ?_⟩, fun _ => Un⟩, stp⟩
  obtain ⟨l1, p1⟩ := ko.1.mem f (List.mem_of_getElem? hf)
  obtain ⟨ty, ht⟩ := Option.isSome_iff_exists.mp p1
  have e1 : v = defaultValue ty := by
    simp only [defs, List.getElem?_map, hf, Option.map_some, ht, Option.getD_some, Option.some.injEq] at hv
    exact hv.symm
  rw [e1]
  exact D l1 ht
theorem toNat_of {z : Int32} {n : Nat} (h : z.toInt = n) : ¬ z < 0 ∧ z.toNatClampNeg = n := by
  refine ⟨fun q => ?_, ?_⟩
  · rw [Int32.lt_iff_toInt_lt, Int32.toInt_zero] at q; omega
  · have : z.toNatClampNeg = z.toInt.toNat := rfl
    omega
theorem fits_default (ty : FieldType) : fits ty (defaultValue ty) = true := by cases ty <;> rfl
theorem wp_newA (C : Cx K l Z a0 EL nw y bytes maxL ret rm G B) {aty : ArrayType} {z : Int32} {n cap : Nat} (j pc' : Nat) (hi : B[j]? = some (pc, .newarray aty, 2)) (hp : pc + 2 = pc') (wa : (Cond.arrayClass (newarray.typeOf aty)).before a0 Z = true) (hz : z.toInt = n) (hcap : n ≤ cap) (hbig : cap * 8 ≤ 536870912)
    {cells' slots' : Nat} (hc : cells + 1 = cells') (hl : slots + cap = slots') (hc' : cells' ≤ rm.cells) (hl' : slots' ≤ rm.slots) {vs : List Value} (hvs : List.replicate n (defaultValue (newarray.typeOf aty)) = vs) (k : ∀ a : Addr, Wp K cells' slots' ((a, true, .inr (newarray.typeOf aty), vs) :: L) pc' ls (.ref a :: st)) : Wp K cells slots L pc ls (.int z :: st) := by
  subst hp hc hl hvs
  have hn := toNat_of hz
  refine wp_make C (st' := fun a => .ref a :: st) (fun p e s m args below meth c vm0 T locs hx hb hown hZ X => ?_) k
  obtain ⟨T', h', cA, X', rfl, E, A, stp⟩ := newP X hx (s := s.setVm vm0) hZ wa rfl (g := mkF m pc ls.toArray (.int z :: st)) rfl (C.dec hi hb) rfl hn.1 (cap := cap) (by rw [hn.2]; exact hcap) hbig hc' hl'
  refine ⟨T', X', E, ⟨_, A, ?_, by rw [List.length_replicate]; omega, fun v hv => ?_, fun _ C q => ?_⟩, stp⟩
  · show Array.replicate z.toNatClampNeg _ = _
    rw [hn.2]; simp
  · rw [(List.mem_replicate.mp hv).2]; exact fits_default _
  · cases aty <;> cases q
theorem wp_newR (C : Cx K l Z a0 EL nw y bytes maxL ret rm G B) {ix : Nat} {Cn : String} {z : Int32} {n cap : Nat} (j pc' : Nat) (hi : B[j]? = some (pc, .anewarray ix, 3)) (hp : pc + 3 = pc') (lk : (Cond.classLink y.cls ix Cn).before a0 Z = true) (wa : (Cond.arrayOver (.object Cn)).before a0 Z = true) (hz : z.toInt = n) (hcap : n ≤ cap) (hbig : cap * 8 ≤ 536870912)
    {cells' slots' : Nat} (hc : cells + 1 = cells') (hl : slots + cap = slots') (hc' : cells' ≤ rm.cells) (hl' : slots' ≤ rm.slots) {vs : List Value} (hvs : List.replicate n Value.null = vs) (k : ∀ a : Addr, Wp K cells' slots' ((a, true, .inr (.object Cn), vs) :: L) pc' ls (.ref a :: st)) : Wp K cells slots L pc ls (.int z :: st) := by
  subst hp hc hl hvs
  have hn := toNat_of hz
  refine wp_make C (st' := fun a => .ref a :: st) (fun p e s m args below meth c vm0 T locs hx hb hown hZ X => ?_) k
  obtain ⟨T', h', cA, X', rfl, E, A, O, stp⟩ := newR X hx (s := s.setVm vm0) hZ hown lk wa rfl (g := mkF m pc ls.toArray (.int z :: st)) rfl (C.dec hi hb) rfl hn.1 (cap := cap) (by rw [hn.2]; exact hcap) hbig hc' hl'
  refine ⟨T', X', E, ⟨_, A, ?_, by rw [List.length_replicate]; omega, fun v hv => ?_, fun _ C q => ?_⟩, stp⟩
  · show Array.replicate z.toNatClampNeg _ = _
    rw [hn.2]; simp [defaultValue]
  · rw [(List.mem_replicate.mp hv).2]; rfl
  · cases q; exact O
/-! arrays -/
theorem Ay.inb {h : Heap} {a : Addr} {w : Bool} {ty : FieldType} {vs : List Value} {c : Cell} (e : c.slots = vs.toArray) {z : Int32} {n : Nat} (hz : z.toInt = n) {v : Value} (hv : vs[n]? = some v) : ¬ (z < 0 ∨ c.slots.size ≤ z.toNatClampNeg) ∧ c.slots[z.toNatClampNeg]? = some v := by
  have hn := toNat_of hz
  have hl := (List.getElem?_eq_some_iff.mp hv).1
  rw [hn.2, e]
  refine ⟨fun q => q.elim hn.1 (fun q => ?_), by simpa using hv⟩
  simp at q; omega
theorem wp_len (C : Cx K l Z a0 EL nw y bytes maxL ret rm G B) {a : Addr} {w : Bool} {ty : FieldType} {vs : List Value} {z : Int32} (j pc' i : Nat) (hi : B[j]? = some (pc, .arraylength, 1)) (hp : pc + 1 = pc') (hL : L[i]? = some (a, w, .inr ty, vs)) (hz : vs.length.toInt32 = z) (k : Wp K cells slots L pc' ls (.int z :: st)) : Wp K cells slots L pc ls (.ref a :: st) := by
  subst hp hz
  refine wp_step C (fun p e s m args below meth c vm0 T locs F hx hb hml hown hZ hH X => ⟨T, X, rfl, fun t h => ?_⟩) k
  obtain ⟨cl, A, e1, -⟩ := hH.arr (app_at hL)
  refine X.arraylength hx A.1 (State.isArrayOf_alike (show Z.vm.Alike (s.setVm vm0).vm from hZ.alike) A.2.1) (g := mkF m pc ls.toArray (.ref a :: st)) rfl rfl (C.dec hi hb) _ ?_
  have : cl.slots.size = vs.length := by rw [e1]; simp
  rw [this]; exact h
theorem wp_aload (C : Cx K l Z a0 EL nw y bytes maxL ret rm G B) {op : Instr} {a : Addr} {w : Bool} {ty : FieldType} {vs : List Value} {z : Int32} {n : Nat} {v : Value} (j pc' i : Nat) (hi : B[j]? = some (pc, op, 1)) (hp : pc + 1 = pc')
    (ho : (op = .iaload ∧ ty = .int) ∨ (op = .laload ∧ ty = .long) ∨ (op = .caload ∧ ty = .char) ∨ (op = .baload ∧ ty = .byte) ∨ (op = .aaload ∧ ty.isReference = true)) (hL : L[i]? = some (a, w, .inr ty, vs)) (hz : z.toInt = n) (hv : vs[n]? = some v) (k : Wp K cells slots L pc' ls (v :: st)) : Wp K cells slots L pc ls (.int z :: .ref a :: st) := by
  subst hp
  refine wp_step C (fun p e s m args below meth c vm0 T locs F hx hb hml hown hZ hH X => ⟨T, X, rfl, fun t h => ?_⟩) k
  obtain ⟨cl, A, e1, -⟩ := hH.arr (app_at hL)
  obtain ⟨q1, q2⟩ := Ay.inb (h := T.heap) (a := a) (w := w) (ty := ty) e1 hz hv
  have hA := State.isArrayOf_alike (show Z.vm.Alike (s.setVm vm0).vm from hZ.alike) A.2.1
  rcases ho with ⟨rfl, rfl⟩ | ⟨rfl, rfl⟩ | ⟨rfl, rfl⟩ | ⟨rfl, rfl⟩ | ⟨rfl, hr⟩
  · exact X.iaload hx A.1 hA A.2.2 q1 q2 (g := mkF m pc ls.toArray (.int z :: .ref a :: st)) rfl rfl (C.dec hi hb) t h
  · exact X.laload hx A.1 hA A.2.2 q1 q2 (g := mkF m pc ls.toArray (.int z :: .ref a :: st)) rfl rfl (C.dec hi hb) t h
  · exact X.caload hx A.1 hA A.2.2 q1 q2 (g := mkF m pc ls.toArray (.int z :: .ref a :: st)) rfl rfl (C.dec hi hb) t h
  · exact X.baloadBytes hx A.1 hA A.2.2 q1 q2 (g := mkF m pc ls.toArray (.int z :: .ref a :: st)) rfl rfl (C.dec hi hb) t h
  · exact X.aaload hx A.1 hA hr A.2.2 q1 q2 (g := mkF m pc ls.toArray (.int z :: .ref a :: st)) rfl rfl (C.dec hi hb) t h
end Rules
end Jvm.Wk
namespace Jvm.Wk
open Sem ClassFile Op Lib Jvm.Stand Jvm.Free Jvm.LawKit Jvm.RoadKit
section Rules
variable {K : Cxt} {l : Launch} {Z : State} {a0 : Array Value} {EL : List (String × Nat)} {nw : Bool} {y : MethodName} {bytes : ByteArray} {maxL : Nat} {ret : Option FieldType} {rm : Room} {G : Option Value → List Item → Prop} {B : Prog} {cells slots pc j : Nat} {L : List Item} {ls : List Slot} {st : List Value}
/-! an array's stores -/
theorem wp_sto (C : Cx K l Z a0 EL nw y bytes maxL ret rm G B) {a : Addr} {ty : FieldType} {vs vs' : List Value} {z : Int32} {n : Nat} {u v : Value} {pc' i : Nat} (hL : L[i]? = some (a, true, .inr ty, vs)) (hz : z.toInt = n) (hn : n < vs.length) (hft : fits ty v = true)
    (hst : ∀ (p : Program) (e : Env) (s : State) (m : MethodId) (args : Array Value) (below : List Frame) (meth : Method) (c : Code) (vm0 : Vm) (T : State) (locs : List Loc) (cl : Cell), p.tables.exec = Jvm.exec → c.code = bytes → Z.Warmed39 vm0 → Arr Z T.heap a cl ty → ¬ (z < 0 ∨ cl.slots.size ≤ z.toNatClampNeg) → Stand p l e rm (s.setVm vm0) m args below meth c T locs cells slots →
      ∃ T' h', Stand p l e rm (s.setVm vm0) m args below meth c T' (locs ++ [⟨a, z.toNatClampNeg⟩]) cells slots ∧ T'.heap = h' ∧ Wr T.heap h' a z.toNatClampNeg v ∧ ∀ target, Steps p.tables e below (T'.setTop (mkF m pc' ls.toArray st)) target → Steps p.tables e below (T.setTop (mkF m pc ls.toArray (u :: .int z :: .ref a :: st))) target)
    (hs : vs.set n v = vs') {L' : List Item} (hL' : L.set i (a, true, .inr ty, vs') = L') (k : Wp K cells slots L' pc' ls st) : Wp K cells slots L pc ls (u :: .int z :: .ref a :: st) := by
  subst hs hL'
  refine wp_write C hL (fun p e s m args below meth c vm0 T locs hx hb hown hnm hZ hI X => ?_) k
  have hI' : Ay Z T.heap a true ty vs := hI
  obtain ⟨cl, A, e1, -⟩ := id hI'
  obtain ⟨q1, -⟩ := Ay.inb (h := T.heap) (a := a) (w := true) (ty := ty) e1 hz (List.getElem?_eq_getElem hn)
  obtain ⟨T', h', X', rfl, W, stp⟩ := hst p e s m args below meth c vm0 T locs cl hx hb hZ A q1 X
  refine ⟨T', _, _, X', W, ?_, stp⟩
  rw [(toNat_of hz).2] at W
  exact Ay.set hI' W hft
theorem wp_stoI (C : Cx K l Z a0 EL nw y bytes maxL ret rm G B) {a : Addr} {vs vs' : List Value} {z x : Int32} {n : Nat} (j pc' i : Nat) (hi : B[j]? = some (pc, .iastore, 1)) (hp : pc + 1 = pc') (hL : L[i]? = some (a, true, .inr .int, vs)) (hz : z.toInt = n) (hn : n < vs.length)
    (hs : vs.set n (.int x) = vs') {L' : List Item} (hL' : L.set i (a, true, .inr .int, vs') = L') (k : Wp K cells slots L' pc' ls st) : Wp K cells slots L pc ls (.int x :: .int z :: .ref a :: st) := by
  subst hp
  exact wp_sto C hL hz hn rfl (fun p e s m args below meth c vm0 T locs cl hx hb hZ A q X => stI X hx (s := s.setVm vm0) hZ rfl A q (g := mkF m pc ls.toArray (.int x :: .int z :: .ref a :: st)) rfl rfl (C.dec hi hb)) hs hL' k
theorem wp_stoJ (C : Cx K l Z a0 EL nw y bytes maxL ret rm G B) {a : Addr} {vs vs' : List Value} {z : Int32} {x : Int64} {n : Nat} (j pc' i : Nat) (hi : B[j]? = some (pc, .lastore, 1)) (hp : pc + 1 = pc') (hL : L[i]? = some (a, true, .inr .long, vs)) (hz : z.toInt = n) (hn : n < vs.length)
    (hs : vs.set n (.long x) = vs') {L' : List Item} (hL' : L.set i (a, true, .inr .long, vs') = L') (k : Wp K cells slots L' pc' ls st) : Wp K cells slots L pc ls (.long x :: .int z :: .ref a :: st) := by
  subst hp
  exact wp_sto C hL hz hn rfl (fun p e s m args below meth c vm0 T locs cl hx hb hZ A q X => stJ X hx (s := s.setVm vm0) hZ rfl A q (g := mkF m pc ls.toArray (.long x :: .int z :: .ref a :: st)) rfl rfl (C.dec hi hb)) hs hL' k
theorem wp_stoC (C : Cx K l Z a0 EL nw y bytes maxL ret rm G B) {a : Addr} {vs vs' : List Value} {z x : Int32} {n : Nat} (j pc' i : Nat) (hi : B[j]? = some (pc, .castore, 1)) (hp : pc + 1 = pc') (hL : L[i]? = some (a, true, .inr .char, vs)) (hz : z.toInt = n) (hn : n < vs.length)
    (hs : vs.set n (.int (nar .char x)) = vs') {L' : List Item} (hL' : L.set i (a, true, .inr .char, vs') = L') (k : Wp K cells slots L' pc' ls st) : Wp K cells slots L pc ls (.int x :: .int z :: .ref a :: st) := by
  subst hp
  exact wp_sto C hL hz hn (fits_nar_char _) (fun p e s m args below meth c vm0 T locs cl hx hb hZ A q X => stC X hx (s := s.setVm vm0) hZ rfl A q (g := mkF m pc ls.toArray (.int x :: .int z :: .ref a :: st)) rfl rfl (C.dec hi hb)) hs hL' k
theorem wp_stoB (C : Cx K l Z a0 EL nw y bytes maxL ret rm G B) {a : Addr} {vs vs' : List Value} {z x : Int32} {n : Nat} (j pc' i : Nat) (hi : B[j]? = some (pc, .bastore, 1)) (hp : pc + 1 = pc') (hL : L[i]? = some (a, true, .inr .byte, vs)) (hz : z.toInt = n) (hn : n < vs.length)
    (hs : vs.set n (.int x.toInt8.toInt32) = vs') {L' : List Item} (hL' : L.set i (a, true, .inr .byte, vs') = L') (k : Wp K cells slots L' pc' ls st) : Wp K cells slots L pc ls (.int x :: .int z :: .ref a :: st) := by
  subst hp
  exact wp_sto C (pc' := pc + 1) (v := .int (nar .byte x)) hL hz hn (fits_nar_byte x) (fun p e s m args below meth c vm0 T locs cl hx hb hZ A q X => stB X hx (s := s.setVm vm0) hZ rfl A q (g := mkF m pc ls.toArray (.int x :: .int z :: .ref a :: st)) rfl rfl (C.dec hi hb)) hs hL' k
theorem wp_stoZ (C : Cx K l Z a0 EL nw y bytes maxL ret rm G B) {a : Addr} {vs vs' : List Value} {z x : Int32} {n : Nat} (j pc' i : Nat) (hi : B[j]? = some (pc, .bastore, 1)) (hp : pc + 1 = pc') (hL : L[i]? = some (a, true, .inr .boolean, vs)) (hz : z.toInt = n) (hn : n < vs.length)
    (hs : vs.set n (.int (x &&& 1)) = vs') {L' : List Item} (hL' : L.set i (a, true, .inr .boolean, vs') = L') (k : Wp K cells slots L' pc' ls st) : Wp K cells slots L pc ls (.int x :: .int z :: .ref a :: st) := by
  subst hp
  exact wp_sto C hL hz hn (fits_nar_bool _) (fun p e s m args below meth c vm0 T locs cl hx hb hZ A q X => stZ X hx (s := s.setVm vm0) hZ rfl A q (g := mkF m pc ls.toArray (.int x :: .int z :: .ref a :: st)) rfl rfl (C.dec hi hb)) hs hL' k
theorem wp_stoN (C : Cx K l Z a0 EL nw y bytes maxL ret rm G B) {a : Addr} {ty : FieldType} {vs vs' : List Value} {z : Int32} {n : Nat} (j pc' i : Nat) (hi : B[j]? = some (pc, .aastore, 1)) (hp : pc + 1 = pc') (hty : ty.isReference = true) (hL : L[i]? = some (a, true, .inr ty, vs)) (hz : z.toInt = n) (hn : n < vs.length)
    (hs : vs.set n .null = vs') {L' : List Item} (hL' : L.set i (a, true, .inr ty, vs') = L') (k : Wp K cells slots L' pc' ls st) : Wp K cells slots L pc ls (.null :: .int z :: .ref a :: st) := by
  subst hp
  have hft : fits ty .null = true := by cases ty <;> first | rfl | (cases hty)
  exact wp_sto C hL hz hn hft (fun p e s m args below meth c vm0 T locs cl hx hb hZ A q X => stR X hx (s := s.setVm vm0) hZ rfl A q hty (Or.inl rfl) (g := mkF m pc ls.toArray (.null :: .int z :: .ref a :: st)) rfl rfl (C.dec hi hb)) hs hL' k
/-! ends -/
theorem wp_leave (C : Cx K l Z a0 EL nw y bytes maxL ret rm G B) {v : Option Value} (hv : ret = none → v = none) (h1 : cells ≤ rm.cells) (h2 : slots ≤ rm.slots) (hG : G v L)
    (hs : ∀ (p : Program) (e : Env) (s : State) (m : MethodId) (args : Array Value) (below : List Frame) (meth : Method) (c : Code) (T : State) (locs : List Loc) (fs : List Frame), p.tables.exec = Jvm.exec → c.code = bytes → meth.sig.returnType = ret → Stand p l e rm s m args below meth c T locs cells slots →
      (∀ (f : JFrame) (acts : List Action), f.method = m → f.locked = none → f.entered = [] → (doReturn e (T.setTop f) acts v).1 = T.setFrames fs) → Steps p.tables e below (T.setTop (mkF m pc ls.toArray st)) (T.setFrames fs)) : Wp K cells slots L pc ls st := by
  obtain ⟨p, e, s, m, args, below, meth, c, F, rfl, hx, hb, hml, hret, hlk, hown, hnm, hEL, hB⟩ := C
  intro vm0 k0 T locs X hS hk hn hZ hF hg hH
  obtain ⟨fs, hr, hrun, hend, hw⟩ := X.leaveW hS hk (v := v) (fun q => hv (hret.symm.trans q)) hlk
  refine ⟨T.setFrames fs, _, hs p e _ m args below meth c T locs fs hx hb hret X hr, hrun, hend, v, locs, L, rfl, hG, (show Hp Z EL T.vm T.heap (L ++ F) from hH.at X hZ hEL), hF, fun q => State.WarmedH.trans (t := s.setVm vm0) (hn q) X.warmed, hg, hw.1, hw.2.1, hw.2.2.1, hw.2.2.2.mono h1 h2⟩
theorem wp_ret0 (C : Cx K l Z a0 EL nw y bytes maxL none rm G B) (j : Nat) (hi : B[j]? = some (pc, .return_, 1)) (h1 : cells ≤ rm.cells) (h2 : slots ≤ rm.slots) (hG : G none L) : Wp K cells slots L pc ls [] :=
  wp_leave C (fun _ => rfl) h1 h2 hG (fun p e s m args below meth c T locs fs hx hb hret X hr => X.returnOut hx hret (C.dec hi hb) hr)
theorem wp_retI (C : Cx K l Z a0 EL nw y bytes maxL (some .int) rm G B) {z : Int32} (j : Nat) (hi : B[j]? = some (pc, .ireturn, 1)) (h1 : cells ≤ rm.cells) (h2 : slots ≤ rm.slots) (hG : G (some (.int z)) L) : Wp K cells slots L pc ls (.int z :: st) :=
  wp_leave C (fun q => nomatch q) h1 h2 hG (fun p e s m args below meth c T locs fs hx hb hret X hr => retOut X hx hret rfl (Or.inl ⟨rfl, Or.inl rfl, z, rfl⟩) (C.dec hi hb) hr)
theorem wp_retJ (C : Cx K l Z a0 EL nw y bytes maxL (some .long) rm G B) {z : Int64} (j : Nat) (hi : B[j]? = some (pc, .lreturn, 1)) (h1 : cells ≤ rm.cells) (h2 : slots ≤ rm.slots) (hG : G (some (.long z)) L) : Wp K cells slots L pc ls (.long z :: st) :=
  wp_leave C (fun q => nomatch q) h1 h2 hG (fun p e s m args below meth c T locs fs hx hb hret X hr => retOut X hx hret rfl (Or.inr (Or.inl ⟨rfl, rfl, z, rfl⟩)) (C.dec hi hb) hr)
theorem wp_retN {t : FieldType} (C : Cx K l Z a0 EL nw y bytes maxL (some t) rm G B) {z z' : Int32} (j : Nat) (hi : B[j]? = some (pc, .ireturn, 1)) (ht : t = .boolean ∨ t = .byte ∨ t = .char ∨ t = .short) (hz : nar t z = z') (h1 : cells ≤ rm.cells) (h2 : slots ≤ rm.slots) (hG : G (some (.int z')) L) : Wp K cells slots L pc ls (.int z :: st) := by
  subst hz
  exact wp_leave C (fun q => nomatch q) h1 h2 hG (fun p e s m args below meth c T locs fs hx hb hret X hr => retN X hx hret ht (C.dec hi hb) hr)
theorem wp_retA {t : FieldType} (C : Cx K l Z a0 EL nw y bytes maxL (some t) rm G B) {v : Value} (j : Nat) (hi : B[j]? = some (pc, .areturn, 1)) (ht : t.isReference = true) (hv : v.isRef = true) (h1 : cells ≤ rm.cells) (h2 : slots ≤ rm.slots) (hG : G (some v) L) : Wp K cells slots L pc ls (v :: st) :=
  wp_leave C (fun q => nomatch q) h1 h2 hG (fun p e s m args below meth c T locs fs hx hb hret X hr => retOut X hx hret (by cases t <;> first | (cases ht; done) | (cases v <;> first | (cases hv; done) | rfl)) (Or.inr (Or.inr (Or.inr (Or.inr ⟨rfl, ht, hv⟩)))) (C.dec hi hb) hr)
/-! calls -/
theorem ct_back {y' : MethodName} {by' : ByteArray} {ml : Nat} {rt : Option FieldType} {rm' : Room} {as : List Value} {L0 F : List Item} {G' : Option Value → List Item → Prop} {R : Room} {p : Program} {e : Env} {below : List Frame} {s : State} {args : Array Value} {vm0 : Vm} {len W : Nat} {h : Heap}
    (hM : Ct l Z EL nw y' by' ml rt [] rm' as L0 G') (hZ : Z.Warmed39 vm0) (wc : (Cond.code y' by' ml rt).before a0 Z = true) (wz : (Cond.initialized y'.cls).before a0 Z = true) (hf : rm'.frames + 1 ≤ R.frames) (hl : W + (ml + 11) + rm'.locals ≤ R.locals) (hEL : EW Z a0 EL) (H : Hp Z EL vm0 h (L0 ++ F)) :
    BackS l R p e below (s.setVm vm0) args y' len W (fun A a => a = as.toArray ∧ A.U.heap = h ∧ A.cells + rm'.cells ≤ R.cells ∧ A.slots + rm'.slots ≤ R.slots)
      (fun A _ v C => ∃ (Lc : List Loc) (L' : List Item), G' v L' ∧ Hp Z EL C.U.vm C.U.heap (L' ++ F) ∧ Fr Z.heap.size Lc ∧ (nw = true → A.U.WarmedH C.U.vm) ∧ C.locs = A.locs ++ Lc ∧ C.cells = A.cells + rm'.cells ∧ C.slots = A.slots + rm'.slots) :=
  BackS.of_freeW (bytes := by') (maxL := ml) (ret := rt) (E := fun _ first o t L k n => k = rm'.cells ∧ n = rm'.slots ∧ ∃ v L', o = .returned v ∧ G' v L' ∧ Hp Z EL t.vm t.heap (L' ++ F) ∧ Fr Z.heap.size L ∧ (nw = true → first.WarmedH t.vm)) (hM F) hf hl
    (fun m meth c A a Y hp => have hU : Z.Warmed39 A.U.vm := wtrans (s := s.setVm vm0) hZ Y.warmed
      ⟨by show (Cond.and _ .tt).before a A.U = true; rw [Cond.before_and, mv hU wc]; rfl, mv hU wc, mv hU wz, hp.2.2.1, hp.2.2.2⟩)
    (fun m meth c A a g mk Y hp => ⟨hp.1, wtrans (s := s.setVm vm0) hZ Y.warmed, by
      show Hp Z EL A.U.vm A.U.heap (L0 ++ F)
      rw [hp.2.1]; exact H.at Y hZ hEL⟩) (fun _ _ _ _ _ _ _ _ _ => trivial)
    (fun _ _ _ _ ⟨v, Lc, L', h1, h2, h3, h4, h5, h6, h7⟩ => ⟨Lc, _, _, h7, rfl, rfl, v, L', h1, h2, h3, h4, h5⟩)
    (fun m meth c A a g mk v t Lc k n Y hp _ _ ⟨e1, e2, v', L', e3, e4, e5, e6, e7⟩ => by
      cases e3; subst e1 e2
      exact ⟨Lc, L', e4, e5, e6, e7, rfl, rfl, rfl⟩)
/-- what a call's law hands out, joined with the rest of the walk -/
theorem wp_call (C : Cx K l Z a0 EL nw y bytes maxL ret rm G B) {y' : MethodName} {by' : ByteArray} {ml : Nat} {rt : Option FieldType} {rm' : Room} {as : List Value} {L0 L1 : List Item} {G' : Option Value → List Item → Prop} {len W : Nat} {rest : List Value}
    (hM : Ct l Z EL nw y' by' ml rt [] rm' as L0 G') (wc : (Cond.code y' by' ml rt).before a0 Z = true) (wz : (Cond.initialized y'.cls).before a0 Z = true) (hf : rm'.frames + 1 ≤ rm.frames) (hl : W + (ml + 11) + rm'.locals ≤ rm.locals) (hL : L = L0 ++ L1)
    (hs : ∀ (p : Program) (e : Env) (s : State) (m : MethodId) (args : Array Value) (below : List Frame) (meth : Method) (c : Code) (vm0 : Vm) (T : State) (locs : List Loc) (Pre : Pt → Array Value → Prop) (Post : Pt → Array Value → Option Value → Pt → Prop), p.tables.exec = Jvm.exec → c.code = bytes → c.maxLocals = maxL → (s.setVm vm0).vm.findClass y.cls = some m.cls → Z.Warmed39 vm0 → (∀ x ∈ L, It Z T.heap x) →
      Stand p l e rm (s.setVm vm0) m args below meth c T locs cells slots → BackS l rm p e below (s.setVm vm0) args y' len W Pre Post → (∀ vm₁, (s.setVm vm0).WarmedH vm₁ → Pre ⟨T.setVm vm₁, locs, cells, slots⟩ as.toArray) →
      ∃ (v : Option Value) (vm₁ : Vm) (D : Pt), (s.setVm vm0).WarmedH vm₁ ∧ Stand p l e rm ((s.setVm vm0).setVm D.U.vm) m args below meth c D.U D.locs D.cells D.slots ∧ (s.setVm vm0).Since D.U.vm D.U.heap.size ∧ T.heap.size ≤ D.U.heap.size ∧ Post ⟨T.setVm vm₁, locs, cells, slots⟩ as.toArray v D ∧
        Steps p.tables e below (T.setTop (mkF m pc ls.toArray st)) (D.U.setTop (mkF m (pc + len) ls.toArray (v.toList ++ rest))))
    {cells' slots' pc' : Nat} (hpc : pc + len = pc') (hc : cells + rm'.cells = cells') (hsl : slots + rm'.slots = slots') (hc' : cells' ≤ rm.cells) (hs' : slots' ≤ rm.slots) (k : ∀ v L', G' v L' → Wp K cells' slots' (L' ++ L1) pc' ls (v.toList ++ rest)) : Wp K cells slots L pc ls st := by
  subst hpc hc hsl hL
  obtain ⟨p, e, s, m, args, below, meth, c, F, rfl, hx, hb, hml, hret, hlk, hown, hnm, hEL, hB⟩ := C
  intro vm0 k0 T locs X hS hk hn hZ hF hg hH
  obtain ⟨v, vm₁, ⟨U, Lo, kc, ks⟩, hW1, X', hS', hgr, ⟨Lc, L', hG', hH', hFr, hn', e1, e2, e3⟩, hst⟩ := hs p e s m args below meth c vm0 T locs _ _ hx hb hml (by rw [show (s.setVm vm0).vm = vm0 from rfl, hS.1.alike.findClass]; exact hown) hZ (fun x hx => hH.2.2.1 x (List.mem_append_left F hx)) X
    (ct_back (len := len) (F := L1 ++ F) hM hZ wc wz hf hl hEL (by rw [← List.append_assoc]; exact hH)) (fun vm₁ _ => ⟨rfl, rfl, hc', hs'⟩)
  dsimp only [Pt.U, Pt.locs, Pt.cells, Pt.slots] at X' hS' hgr hH' hn' e1 e2 e3 hst
  subst e1 e2 e3
  obtain ⟨t, o, h1, h2⟩ := k v L' hG' U.vm U.heap.size U (locs ++ Lc) X' (hS.trans hS' (Nat.le_trans hk hgr)) (Nat.le_refl _) (fun q => State.WarmedH.trans (t := s.setVm vm0) (hn q) (State.WarmedH.trans (t := T.setVm vm₁) hW1 (hn' q))) (State.Warmed39.trans (t := s.setVm vm0) hZ hS'.1) (Fr.app hF hFr) (Nat.le_trans hg hgr) (by rw [List.append_assoc]; exact hH')
  exact ⟨t, o, hst.trans h1, h2⟩
theorem sz {ls : List Slot} {c : Code} (hml : c.maxLocals = maxL) (h : ls.length = maxL) : ls.toArray.size = c.maxLocals := by rw [hml, ← h]; simp
theorem wp_init (C : Cx K l Z a0 EL nw y bytes maxL ret rm G B) {y' : MethodName} {by' : ByteArray} {ml ix : Nat} {rm' : Room} {a : Addr} {al rest : List Value} {ps : List FieldType} {L0 L1 : List Item} {G' : Option Value → List Item → Prop} {W : Nat} (j pc' : Nat)
    (hM : Ct l Z EL nw y' by' ml none [] rm' (.ref a :: al) L0 G') (hi : B[j]? = some (pc, .invokespecial ix, 3)) (hpc : pc + 3 = pc') (lk : (Cond.methodLink y.cls ix y').before a0 Z = true) (wi : (Cond.instanceMethod y').before a0 Z = true) (wc : (Cond.code y' by' ml none).before a0 Z = true) (wz : (Cond.initialized y'.cls).before a0 Z = true)
    (hn1 : y'.name = "<init>") (hy : y'.cls ≠ "java/lang/invoke/MethodHandle" ∧ y'.cls ≠ "java/lang/invoke/VarHandle") (hd : parseMethodDescriptor y'.desc = some ⟨ps, none⟩) (hlen : al.length = ps.length) (hst : st = al.reverse ++ .ref a :: rest) (hW : (rest.map fun v => v.category).sum = W) (hls : ls.length = maxL)
    (hf : rm'.frames + 1 ≤ rm.frames) (hl : W + (ml + 11) + rm'.locals ≤ rm.locals) (hL : L = L0 ++ L1) {cells' slots' : Nat} (hc : cells + rm'.cells = cells') (hsl : slots + rm'.slots = slots') (hc' : cells' ≤ rm.cells) (hs' : slots' ≤ rm.slots) (k : ∀ v L', G' v L' → Wp K cells' slots' (L' ++ L1) pc' ls (v.toList ++ rest)) : Wp K cells slots L pc ls st := by
  refine wp_call C (len := 3) (W := W) hM wc wz hf hl hL (fun p e s m args below meth c vm0 T locs Pre Post hx hb hml hown hZ hI X hK hp => ?_) hpc hc hsl hc' hs' k
  exact X.specialBackS hx hn1 hown (mvT (s := s.setVm vm0) hZ lk) (mvT (s := s.setVm vm0) hZ wi) (mvT (s := s.setVm vm0) hZ wc) hy hK (g := mkF m pc ls.toArray st) rfl (sz hml hls) (Steps.refl _) (a := a) (argsL := al) (rest := rest) (lenOf hd hlen) hst (by show 2 * 0 + _ ≤ _; omega) (C.dec hi hb) hp
theorem wp_static (C : Cx K l Z a0 EL nw y bytes maxL ret rm G B) {y' : MethodName} {by' : ByteArray} {ml ix : Nat} {rt : Option FieldType} {rm' : Room} {al rest : List Value} {ps : List FieldType} {L0 L1 : List Item} {G' : Option Value → List Item → Prop} {W : Nat} (j pc' : Nat)
    (hM : Ct l Z EL nw y' by' ml rt [] rm' al L0 G') (hi : B[j]? = some (pc, .invokestatic ix, 3)) (hpc : pc + 3 = pc') (lk : (Cond.methodLink y.cls ix y').before a0 Z = true) (ws : (Cond.static y').before a0 Z = true) (wc : (Cond.code y' by' ml rt).before a0 Z = true) (wz : (Cond.initialized y'.cls).before a0 Z = true)
    (hy : y'.cls ≠ "java/lang/invoke/MethodHandle" ∧ y'.cls ≠ "java/lang/invoke/VarHandle") (hd : parseMethodDescriptor y'.desc = some ⟨ps, rt⟩) (hlen : al.length = ps.length) (hst : st = al.reverse ++ rest) (hW : (rest.map fun v => v.category).sum = W) (hls : ls.length = maxL)
    (hf : rm'.frames + 1 ≤ rm.frames) (hl : W + (ml + 11) + rm'.locals ≤ rm.locals) (hL : L = L0 ++ L1) {cells' slots' : Nat} (hc : cells + rm'.cells = cells') (hsl : slots + rm'.slots = slots') (hc' : cells' ≤ rm.cells) (hs' : slots' ≤ rm.slots) (k : ∀ v L', G' v L' → Wp K cells' slots' (L' ++ L1) pc' ls (v.toList ++ rest)) : Wp K cells slots L pc ls st := by
  refine wp_call C (len := 3) (W := W) hM wc wz hf hl hL (fun p e s m args below meth c vm0 T locs Pre Post hx hb hml hown hZ hI X hK hp => ?_) hpc hc hsl hc' hs' k
  exact callSS X hx hown (mvT (s := s.setVm vm0) hZ lk) (mvT (s := s.setVm vm0) hZ ws) (mvT (s := s.setVm vm0) hZ wz) (mvT (s := s.setVm vm0) hZ wc) hy hK (g := mkF m pc ls.toArray st) rfl (sz hml hls) (argsL := al) (rest := rest) (lenOf hd hlen) hst (by show 2 * 0 + _ ≤ _; omega) (C.dec hi hb) hp
theorem It.exa {h : Heap} {a : Addr} {w : Bool} {Kc : Kd} {vs : List Value} (I : It Z h (a, w, .inl Kc, vs)) : Exa Z h a Kc.1 := I.1.1
theorem wp_virtual (C : Cx K l Z a0 EL nw y bytes maxL ret rm G B) {y' z' : MethodName} {by' : ByteArray} {ml ix : Nat} {rt : Option FieldType} {rm' : Room} {a : Addr} {w : Bool} {Kc : Kd} {vs : List Value} {al rest : List Value} {ps : List FieldType} {L0 L1 : List Item} {G' : Option Value → List Item → Prop} {W : Nat} (j pc' i : Nat)
    (hM : Ct l Z EL nw z' by' ml rt [] rm' (.ref a :: al) L0 G') (hi : B[j]? = some (pc, .invokevirtual ix, 3)) (hpc : pc + 3 = pc') (hR : L[i]? = some (a, w, .inl Kc, vs)) (lk : (Cond.methodLink y.cls ix y').before a0 Z = true) (wd : (Cond.declares y').before a0 Z = true) (wnf : ∀ s : State, Z.Warmed39 s.vm → NotFace s y') (wsel : (Cond.selects Kc.1 y' z').before a0 Z = true) (wi : (Cond.instanceMethod z').before a0 Z = true) (wc : (Cond.code z' by' ml rt).before a0 Z = true) (wz : (Cond.initialized z'.cls).before a0 Z = true)
    (hy : y'.cls ≠ "java/lang/invoke/MethodHandle" ∧ y'.cls ≠ "java/lang/invoke/VarHandle") (hd : parseMethodDescriptor y'.desc = some ⟨ps, rt⟩) (hlen : al.length = ps.length) (hst : st = al.reverse ++ .ref a :: rest) (hW : (rest.map fun v => v.category).sum = W) (hls : ls.length = maxL)
    (hf : rm'.frames + 1 ≤ rm.frames) (hl : W + (ml + 11) + rm'.locals ≤ rm.locals) (hL : L = L0 ++ L1) {cells' slots' : Nat} (hc : cells + rm'.cells = cells') (hsl : slots + rm'.slots = slots') (hc' : cells' ≤ rm.cells) (hs' : slots' ≤ rm.slots) (k : ∀ v L', G' v L' → Wp K cells' slots' (L' ++ L1) pc' ls (v.toList ++ rest)) : Wp K cells slots L pc ls st := by
  refine wp_call C (len := 3) (W := W) hM wc wz hf hl hL (fun p e s m args below meth c vm0 T locs Pre Post hx hb hml hown hZ hI X hK hp => ?_) hpc hc hsl hc' hs' k
  obtain ⟨cq, kq, qa, qb, qc⟩ := isOf (s := s.setVm vm0) (T := T) hZ rfl (It.exa (hI _ (List.mem_of_getElem? hR)))
  exact X.virtualBackS hx hown (mvT (s := s.setVm vm0) hZ lk) (mvT (s := s.setVm vm0) hZ wd) (wnf (s.setVm vm0) hZ) (mvT (s := s.setVm vm0) hZ wsel) (mvT (s := s.setVm vm0) hZ wi) hy hK qa qc (g := mkF m pc ls.toArray st) rfl (sz hml hls) (Steps.refl _) (argsL := al) (rest := rest) (lenOf hd hlen) hst (by show 2 * 0 + _ ≤ _; omega) (C.dec hi hb) hp
theorem nf_self {Cn : String} {y' : MethodName} (w : (Cond.selects Cn y' y').before a0 Z = true) : ∀ s : State, Z.Warmed39 s.vm → NotFace s y' := fun s hZ => notFace_of_selects (args := #[]) (mvT hZ w)
theorem wp_private (C : Cx K l Z a0 EL nw y bytes maxL ret rm G B) {y' : MethodName} {by' : ByteArray} {ml ix : Nat} {rt : Option FieldType} {rm' : Room} {a : Addr} {w : Bool} {Kc : Kd} {vs : List Value} {al rest : List Value} {ps : List FieldType} {L0 L1 : List Item} {G' : Option Value → List Item → Prop} {W : Nat} (j pc' i : Nat)
    (hM : Ct l Z EL nw y' by' ml rt [] rm' (.ref a :: al) L0 G') (hi : B[j]? = some (pc, .invokevirtual ix, 3)) (hpc : pc + 3 = pc') (hR : L[i]? = some (a, w, .inl Kc, vs)) (lk : (Cond.methodLink y.cls ix y').before a0 Z = true) (wi : (Cond.instanceMethod y').before a0 Z = true) (wsel : (Cond.selects y'.cls y' y').before a0 Z = true) (wp : (Cond.privateMethod y').before a0 Z = true) (wc : (Cond.code y' by' ml rt).before a0 Z = true) (wz : (Cond.initialized y'.cls).before a0 Z = true)
    (hy : y'.cls ≠ "java/lang/invoke/MethodHandle" ∧ y'.cls ≠ "java/lang/invoke/VarHandle") (hd : parseMethodDescriptor y'.desc = some ⟨ps, rt⟩) (hlen : al.length = ps.length) (hst : st = al.reverse ++ .ref a :: rest) (hW : (rest.map fun v => v.category).sum = W) (hls : ls.length = maxL)
    (hf : rm'.frames + 1 ≤ rm.frames) (hl : W + (ml + 11) + rm'.locals ≤ rm.locals) (hL : L = L0 ++ L1) {cells' slots' : Nat} (hc : cells + rm'.cells = cells') (hsl : slots + rm'.slots = slots') (hc' : cells' ≤ rm.cells) (hs' : slots' ≤ rm.slots) (k : ∀ v L', G' v L' → Wp K cells' slots' (L' ++ L1) pc' ls (v.toList ++ rest)) : Wp K cells slots L pc ls st := by
  refine wp_call C (len := 3) (W := W) hM wc wz hf hl hL (fun p e s m args below meth c vm0 T locs Pre Post hx hb hml hown hZ hI X hK hp => ?_) hpc hc hsl hc' hs' k
  obtain ⟨cq, q1, q2⟩ := (It.exa (hI _ (List.mem_of_getElem? hR))).cell
  exact X.privateBackS hx hown (mvT (s := s.setVm vm0) hZ lk) (mvT (s := s.setVm vm0) hZ wi) (mvT (s := s.setVm vm0) hZ wsel) (Cond.privateMethod_at (mvP (s := s.setVm vm0) hZ wp (args := #[]))) (mvT (s := s.setVm vm0) hZ wc) hy hK (g := mkF m pc ls.toArray st) rfl (sz hml hls) (Steps.refl _) (a := a) q1 q2 (argsL := al) (rest := rest) (lenOf hd hlen) hst (by show 2 * 0 + _ ≤ _; omega) (C.dec hi hb) hp
/-- Object's constructor -/
theorem wp_initO (C : Cx K l Z a0 EL nw y bytes maxL ret rm G B) {ix : Nat} {a : Addr} {W : Nat} (j pc' : Nat) (hi : B[j]? = some (pc, .invokespecial ix, 3)) (hp : pc + 3 = pc') (w1 : (Cond.methodLink y.cls ix Lib.objectInit).before a0 Z = true) (w2 : (Cond.instanceMethod Lib.objectInit).before a0 Z = true) (w3 : (Cond.code Lib.objectInit ⟨#[0xb1]⟩ 1 none).before a0 Z = true)
    (hf : 1 ≤ rm.frames) (hW : (st.map fun v => v.category).sum = W) (hl : W + 12 ≤ rm.locals) (hls : ls.length = maxL) (k : Wp K cells slots L pc' ls st) : Wp K cells slots L pc ls (.ref a :: st) := by
  subst hp
  exact wp_step C (fun p e s m args below meth c vm0 T locs F hx hb hml hown hZ hH X => initO X hx (s := s.setVm vm0) hZ hown w1 w2 w3 rfl (g := mkF m pc ls.toArray (.ref a :: st)) rfl (sz hml hls) rfl (C.dec hi hb) hf (W := W) (by show 2 * 0 + _ ≤ _; omega) hl) k
end Rules
end Jvm.Wk
namespace Jvm.Wk
open Jvm.RoadKit
/-! sums within bounds -/
theorem one32 : (1 : Int32).toInt = 1 := rfl
theorem zero32 : (0 : Int32).toInt = 0 := rfl
theorem addI {x z : Int32} {a b : Int} (hx : x.toInt = a) (hz : z.toInt = b) (h1 : -2147483648 ≤ a + b := by omega) (h2 : a + b < 2147483648 := by omega) : (x + z).toInt = a + b := by
  have h := c_iadd x z
  have r := rng32 (x + z)
  generalize x + z = s at *
  omega
theorem subI {x z : Int32} {a b : Int} (hx : x.toInt = a) (hz : z.toInt = b) (h1 : -2147483648 ≤ a - b := by omega) (h2 : a - b < 2147483648 := by omega) : (x - z).toInt = a - b := by
  have h := c_isub x z
  have r := rng32 (x - z)
  generalize x - z = s at *
  omega
theorem mulI {x z : Int32} {a b : Int} (hx : x.toInt = a) (hz : z.toInt = b) (h1 : -2147483648 ≤ a * b) (h2 : a * b < 2147483648) : (x * z).toInt = a * b := by
  have h := c_imul x z
  have r := rng32 (x * z)
  rw [hx, hz] at h
  generalize x * z = s at *
  generalize a * b = c at *
  omega
theorem ushI {x : Int32} {a : Int} (hx : x.toInt = a) (h : 0 ≤ a) : (ush x 1).toInt = a / 2 := by
  have e : (ush x 1).toInt = (x.toInt % 4294967296) / (2 ^ 1 : Nat) := c_iushr x 1 1 (by decide) (by decide)
  have r := rng32 x
  rw [e, hx]
  simp only [Nat.pow_one]
  omega
end Jvm.Wk
namespace Jvm.Wk
open Sem ClassFile Op Lib Jvm.Stand Jvm.Free Jvm.LawKit Jvm.RoadKit
/-! String constants, cold -/
abbrev kVC : Kd := ("java/lang/String", [("java/lang/String", "value", "[B"), ("java/lang/String", "coder", "B")])
abbrev kCV : Kd := ("java/lang/String", [("java/lang/String", "coder", "B"), ("java/lang/String", "value", "[B")])
section Lits
variable {K : Cxt} {l : Launch} {Z : State} {a0 : Array Value} {EL : List (String × Nat)} {nw : Bool} {y : MethodName} {bytes : ByteArray} {maxL : Nat} {ret : Option FieldType} {rm : Room} {G : Option Value → List Item → Prop} {B : Prog} {cells slots pc j : Nat} {L : List Item} {ls : List Slot} {st : List Value}
theorem wp_ldcO (C : Cx K l Z a0 EL false y bytes maxL ret rm G B) {ix n : Nat} {text : String} (j pc' : Nat) (hi : B[j]? = some (pc, .ldc ix, 2)) (hp : pc + 2 = pc') (w : (Cond.stringLink y.cls ix text).before a0 Z = true) (wS : ∀ a ∈ Bundle.stringAtoms, a.before a0 Z = true) (hn : 4 * text.toList.length ≤ n) (hbig : n ≤ 536870912)
    {cells' slots' : Nat} (hc : cells + 2 = cells') (hl : slots + (n + 4) = slots') (hc' : cells' ≤ rm.cells) (hl' : slots' ≤ rm.slots) (k : ∀ a : Addr, Wp K cells' slots' L pc' ls (.ref a :: st)) : Wp K cells slots L pc ls st := by
  subst hp hc hl
  have C' := C
  obtain ⟨p, e, s, m, args, below, meth, c, F, rfl, hx, hb, hml, hret, hlk, hown, hnm, hEL, hB⟩ := C
  intro vm0 k0 T locs X hS hk hnw hZ hF hg hH
  obtain ⟨a, T', h', k1, X', rfl, E, hS', hk', hW, hf, hC, -, stp⟩ := ldcOH X hx hZ (show vm0.findClass y.cls = some m.cls by rw [hS.1.alike.findClass]; exact hown) w wS rfl hS hk hEL hH.2.1 (g := mkF m pc ls.toArray st) rfl (C'.dec hi hb) hn hbig hc' hl'
  obtain ⟨t, o, h1, h2⟩ := k a T'.vm k1 T' locs X' hS' hk' (fun q => nomatch q) hW hF (Nat.le_trans hg E.1) (hH.later E hC)
  exact ⟨t, o, stp t h1, h2⟩
theorem Ay.of_arv {h : Heap} {b : Addr} {kc : ClassId} {z : Int32} {vs : List Value} {dv : Value} (F : Arv Z h b kc .byte z vs dv) (hl : z.toNatClampNeg = vs.length) (hb : vs.length < 2 ^ 31) : Ay Z h b false .byte vs := by
  obtain ⟨c, A, -, hs, -, H, Gf⟩ := F
  have e : c.slots = vs.toArray := by
    apply Array.ext_getElem?
    intro i
    by_cases q : i < c.slots.size
    · rw [H i q]
      have q2 : i < vs.length := by omega
      simp [List.getD_eq_getElem?_getD, q2]
    · rw [Array.getElem?_eq_none (by omega), Array.getElem?_eq_none (by simp; omega)]
  refine ⟨c, A, e, hb, fun v hv => ?_, fun q => nomatch q⟩
  obtain ⟨i, hi, rfl⟩ := List.getElem_of_mem hv
  have := Gf i (by omega)
  simpa [List.getD_eq_getElem?_getD, hi] using this
theorem wp_ldcC (C : Cx K l Z a0 EL false y bytes maxL ret rm G B) {ix n : Nat} {text : String} {vs : List Value} {Kc : Kd} {mk : Addr → List Value} (z : Int32) (j pc' : Nat) (hi : B[j]? = some (pc, .ldc ix, 2)) (hp : pc + 2 = pc') (w : (Cond.stringLink y.cls ix text).before a0 Z = true) (wS : ∀ a ∈ Bundle.stringAtoms, a.before a0 Z = true) (hmem : (y.cls, ix) ∈ EL)
    (ht : (∀ c ∈ text.toList, c.toNat < 256) ∧ text.toList.map (fun c => Value.int (Jvm.Lit.byteI c.toNat.toUInt16)) = vs) (hz : ¬ z < 0) (hzl : z.toNatClampNeg = vs.length) (hvl : vs.length < 2 ^ 31) (hK : (Kc = kVC ∧ mk = fun b => [.ref b, .int 0]) ∨ (Kc = kCV ∧ mk = fun b => [.int 0, .ref b]))
    (hn : 4 * text.toList.length ≤ n) (hbig : n ≤ 536870912) {cells' slots' : Nat} (hc : cells + 2 = cells') (hl : slots + (n + 4) = slots') (hc' : cells' ≤ rm.cells) (hl' : slots' ≤ rm.slots) (k : ∀ a b : Addr, Wp K cells' slots' ((a, false, .inl Kc, mk b) :: (b, false, .inr .byte, vs) :: L) pc' ls (.ref a :: st)) : Wp K cells slots L pc ls st := by
  subst hp hc hl
  have C' := C
  obtain ⟨p, e, s, m, args, below, meth, c, F, rfl, hx, hb, hml, hret, hlk, hown, hnm, hEL, hB⟩ := C
  intro vm0 k0 T locs X hS hk hnw hZ hF hg hH
  obtain ⟨a, T', h', k1, b, kc, X', rfl, E, hS', hk', hW, hf, A1, A2, A3, A4, -, -, hC, -, hsafe, stp⟩ := ldcCH X hx hZ (show vm0.findClass y.cls = some m.cls by rw [hS.1.alike.findClass]; exact hown) w wS rfl hS hk hEL hmem hH.2.1 ht hz hzl (g := mkF m pc ls.toArray st) rfl (C'.dec hi hb) hn hbig hc' hl'
  have hL := hH.later E hC
  have hne : ∀ q ∈ ((L ++ F).map key), q.2 = true → a ≠ q.1 ∧ b ≠ q.1 := fun q hq hw => by
    have := hsafe q.1 (hL.2.2.2.2 q hq hw).2
    exact ⟨Ne.symm this.1, Ne.symm this.2⟩
  have hL1 : Hp Z EL T'.vm T'.heap ((b, false, .inr .byte, vs) :: (L ++ F)) := hL.add (fun q hq hw => (hne q hq hw).2) (Ay.of_arv A4 hzl hvl)
  have hO : Ob Z T'.heap a Kc (mk b) := by
    rcases hK with ⟨rfl, rfl⟩ | ⟨rfl, rfl⟩
    · refine ⟨A1, fun i f v hf' hv => ?_⟩
      match i, hf', hv with
      | 0, hf', hv => cases hf'; cases hv; exact A3
      | 1, hf', hv => cases hf'; cases hv; exact A2
    · refine ⟨A1, fun i f v hf' hv => ?_⟩
      match i, hf', hv with
      | 0, hf', hv => cases hf'; cases hv; exact A2
      | 1, hf', hv => cases hf'; cases hv; exact A3
  have hL2 : Hp Z EL T'.vm T'.heap ((a, false, .inl Kc, mk b) :: (b, false, .inr .byte, vs) :: (L ++ F)) := hL1.add (fun q hq hw => by
    rcases List.mem_cons.mp hq with rfl | hq
    · cases hw
    · exact (hne q hq hw).1) ⟨hO, fun q => nomatch q⟩
  obtain ⟨t, o, h1, h2⟩ := k a b T'.vm k1 T' locs X' hS' hk' (fun q => nomatch q) hW hF (Nat.le_trans hg E.1) hL2
  exact ⟨t, o, stp t h1, h2⟩
end Lits
end Jvm.Wk
namespace Jvm.Wk
open Sem ClassFile Op Lib Jvm.Stand Jvm.Free Jvm.LawKit Jvm.RoadKit
section More
variable {K : Cxt} {l : Launch} {Z : State} {a0 : Array Value} {EL : List (String × Nat)} {nw : Bool} {y : MethodName} {bytes : ByteArray} {maxL : Nat} {ret : Option FieldType} {rm : Room} {G : Option Value → List Item → Prop} {B : Prog} {cells slots pc j : Nat} {L : List Item} {ls : List Slot} {st : List Value}
/-- two known cells, one of them new: two addresses -/
theorem wp_ne (C : Cx K l Z a0 EL nw y bytes maxL ret rm G B) {a b : Addr} {wa wb : Bool} {D E : Kd ⊕ FieldType} {us vs : List Value} (i i' : Nat) (hi : L[i]? = some (a, wa, D, us)) (hi' : L[i']? = some (b, wb, E, vs)) (hij : i < i') (hw : (wa || wb) = true) (k : a ≠ b → Wp K cells slots L pc ls st) : Wp K cells slots L pc ls st := by
  obtain ⟨p, e, s, m, args, below, meth, c, F, rfl, -⟩ := C
  intro vm0 k0 T locs X hS hk hn hZ hF hg hH
  refine k ?_ vm0 k0 T locs X hS hk hn hZ hF hg hH
  have h1 : ((L ++ F).map key)[i]? = some (a, wa) := by rw [List.getElem?_map, app_at hi]; rfl
  have h2 : ((L ++ F).map key)[i']? = some (b, wb) := by rw [List.getElem?_map, app_at hi']; rfl
  obtain ⟨q1, e1⟩ := List.getElem?_eq_some_iff.mp h1
  obtain ⟨q2, e2⟩ := List.getElem?_eq_some_iff.mp h2
  have := List.pairwise_iff_getElem.mp hH.2.2.2.1 i i' q1 q2 hij
  rw [e1, e2] at this
  exact this hw
theorem wp_instY (C : Cx K l Z a0 EL nw y bytes maxL ret rm G B) {ix : Nat} {Kn : String} {a : Addr} {w : Bool} {Kc : Kd} {vs : List Value} (j pc' i : Nat) (hi : B[j]? = some (pc, .instanceof ix, 3)) (hp : pc + 3 = pc') (lk : (Cond.classLink y.cls ix Kn).before a0 Z = true) (wc : (Cond.castable Kc.1 Kn).before a0 Z = true) (hL : L[i]? = some (a, w, .inl Kc, vs))
    (k : Wp K cells slots L pc' ls (.int 1 :: st)) : Wp K cells slots L pc ls (.ref a :: st) := by
  subst hp
  exact wp_step C (fun p e s m args below meth c vm0 T locs F hx hb hml hown hZ hH X => instY X hx (s := s.setVm vm0) hZ hown lk rfl (Ins.of_exa (hH.obj (app_at hL)).1 wc) (g := mkF m pc ls.toArray (.ref a :: st)) rfl rfl (C.dec hi hb)) k
theorem wp_castY (C : Cx K l Z a0 EL nw y bytes maxL ret rm G B) {ix : Nat} {Kn : String} {a : Addr} {w : Bool} {Kc : Kd} {vs : List Value} (j pc' i : Nat) (hi : B[j]? = some (pc, .checkcast ix, 3)) (hp : pc + 3 = pc') (lk : (Cond.classLink y.cls ix Kn).before a0 Z = true) (wc : (Cond.castable Kc.1 Kn).before a0 Z = true) (hL : L[i]? = some (a, w, .inl Kc, vs))
    (k : Wp K cells slots L pc' ls (.ref a :: st)) : Wp K cells slots L pc ls (.ref a :: st) := by
  subst hp
  exact wp_step C (fun p e s m args below meth c vm0 T locs F hx hb hml hown hZ hH X => castY X hx (s := s.setVm vm0) hZ hown lk rfl (Ins.of_exa (hH.obj (app_at hL)).1 wc) (g := mkF m pc ls.toArray (.ref a :: st)) rfl rfl (C.dec hi hb)) k
end More
end Jvm.Wk
namespace Jvm.Wk
open Sem ClassFile Op Lib Jvm.Stand Jvm.Free Jvm.LawKit Jvm.RoadKit
/-! System.arraycopy -/
section Copies
variable {Z : State} {EL : List (String × Nat)} {vm : Vm} {h h' : Heap} {L L' : List Item} {x : Item} {a : Addr}
theorem It.keepO (K : Keep h h' [a]) (q : x.1 ≠ a) (I : It Z h x) : It Z h' x := by
  obtain ⟨b, w, D, vs⟩ := x
  have hn : b ∉ [a] := fun z => q (List.mem_singleton.mp z)
  cases D with
  | inl Kd => exact ⟨⟨(I.1.1 : Exa Z h b Kd.1).keep K, fun i f v p r => (I.1.2 i f v p r).keep K hn⟩, fun hw => by obtain ⟨cell, u1, u2⟩ := I.2 hw; exact ⟨cell, K.2.1 _ _ u1 hn, u2⟩⟩
  | inr ty => obtain ⟨c, A, r⟩ := I; exact ⟨c, ⟨K.2.1 b c A.1 hn, A.2⟩, r⟩
theorem Hp.keepO {i : Nat} {D D' : Kd ⊕ FieldType} {vs vs' : List Value} (H : Hp Z EL vm h L) (hi : L[i]? = some (a, true, D, vs)) (K : Keep h h' [a]) (I : It Z h' (a, true, D', vs')) : Hp Z EL vm h' (L.set i (a, true, D', vs')) := by
  obtain ⟨H1, H2, H3, H4, H5⟩ := H
  have hk : (L.map key)[i]? = some (a, true) := by rw [List.getElem?_map, hi]; rfl
  have em : (L.set i (a, true, D', vs')).map key = L.map key := by rw [List.map_set]; exact set_same hk
  have ha := H5 _ (List.mem_of_getElem? hk) rfl
  have hs : ∀ x ∈ [a], Safe Z EL vm h x := fun x hx => by cases List.mem_singleton.mp hx; exact ha.2
  refine ⟨(Old.keep ⟨rfl, H1⟩ K (fun x hx => by cases List.mem_singleton.mp hx; exact ha.1)).2, H2.keep K hs, ?_, by rw [em]; exact H4, ?_⟩
  · intro y hy
    obtain ⟨j, hj⟩ := List.mem_iff_getElem?.mp hy
    rw [List.getElem?_set] at hj
    split at hj
    · split at hj
      · cases hj; exact I
      · cases hj
    · rename_i hne
      refine (H3 y (List.mem_of_getElem? hj)).keepO K ?_
      have hkj : (L.map key)[j]? = some (key y) := by rw [List.getElem?_map, hj]; rfl
      obtain ⟨hi1, hi2⟩ := List.getElem?_eq_some_iff.mp hk
      obtain ⟨hj1, hj2⟩ := List.getElem?_eq_some_iff.mp hkj
      have P := List.pairwise_iff_getElem.mp H4
      rcases Nat.lt_or_gt_of_ne hne with q | q
      · have := P i j hi1 hj1 q
        rw [hi2, hj2] at this
        exact Ne.symm (this rfl)
      · have := P j i hj1 hi1 q
        rw [hi2, hj2] at this
        exact this (by simp)
  · rw [em]
    exact fun k hk hw => ⟨(H5 k hk hw).1, Safe.keep K hs H2 (H5 k hk hw).2⟩
theorem len32N {n : Nat} (h : n < 2 ^ 31) : (Int32.ofNat n).toNatClampNeg = n ∧ ¬ Int32.ofNat n < 0 := by
  have e : (Int32.ofNat n).toInt = n := Int32.toInt_ofNat_of_lt (by omega)
  refine ⟨by simp only [Int32.toNatClampNeg, e]; rfl, fun q => ?_⟩
  rw [Int32.lt_iff_toInt_lt, e] at q
  have : (0 : Int32).toInt = 0 := rfl
  omega
theorem Ay.arv {w : Bool} {ty : FieldType} {vs : List Value} (I : Ay Z h a w ty vs) : ∃ k, Arv Z h a k ty (Int32.ofNat vs.length) vs .null := by
  obtain ⟨c, A, e, hl, hf, -⟩ := I
  have hs : c.slots.size = vs.length := by rw [e]; rfl
  refine ⟨c.cls, c, A, rfl, by rw [(len32N hl).1]; exact hs, (len32N hl).2, fun i hi => ?_, fun i hi => ?_⟩
  · rw [e]; simp [List.getD_eq_getElem?_getD, hs ▸ hi]
  · have q : i < vs.length := hs ▸ hi
    simpa [List.getD_eq_getElem?_getD, q] using hf _ (List.getElem_mem q)
theorem Ay.of_arvP {w : Bool} {ty : FieldType} {b : Addr} {kc : ClassId} {z : Int32} {vs : List Value} {dv : Value} (hp : refKind ty = false) (F : Arv Z h b kc ty z vs dv) (hl : z.toNatClampNeg = vs.length) (hb : vs.length < 2 ^ 31) : Ay Z h b w ty vs := by
  obtain ⟨c, A, -, hs, -, H, Gf⟩ := F
  have e : c.slots = vs.toArray := by
    apply Array.ext_getElem?
    intro i
    by_cases q : i < c.slots.size
    · rw [H i q]
      have q2 : i < vs.length := by omega
      simp [List.getD_eq_getElem?_getD, q2]
    · rw [Array.getElem?_eq_none (by omega), Array.getElem?_eq_none (by simp; omega)]
  refine ⟨c, A, e, hb, fun v hv => ?_, fun _ C q => by subst q; cases hp⟩
  obtain ⟨i, hi, rfl⟩ := List.getElem_of_mem hv
  have := Gf i (by omega)
  simpa [List.getD_eq_getElem?_getD, hi] using this
theorem stretch_eq {vs : List Value} {ns n : Nat} (h : ns + n ≤ vs.length) : (List.range n).map (fun i => vs.getD (ns + i) .null) = (vs.drop ns).take n := by
  apply List.ext_getElem?
  intro i
  by_cases q : i < n
  · have q2 : ns + i < vs.length := by omega
    simp [q, List.getD_eq_getElem?_getD, q2, List.getElem?_take, List.getElem?_drop]
  · simp [q, List.getElem?_take]
end Copies
section Rules
variable {K : Cxt} {l : Launch} {Z : State} {a0 : Array Value} {EL : List (String × Nat)} {nw : Bool} {y : MethodName} {bytes : ByteArray} {maxL : Nat} {ret : Option FieldType} {rm : Room} {G : Option Value → List Item → Prop} {B : Prog} {cells slots pc j : Nat} {L : List Item} {ls : List Slot} {st : List Value}
theorem wp_copy (C : Cx K l Z a0 EL nw y bytes maxL ret rm G B) {ix ns nd n W : Nat} {a b : Addr} {wa : Bool} {ty : FieldType} {vs vd vd' : List Value} {sp dp nn : Int32} (j pc' i i' : Nat) (hi : B[j]? = some (pc, .invokestatic ix, 3)) (hp : pc + 3 = pc')
    (w1 : (Cond.methodLink y.cls ix Jvm.Stand.acN).before a0 Z = true) (w2 : (Cond.native Jvm.Stand.acN).before a0 Z = true) (w3 : (Cond.static Jvm.Stand.acN).before a0 Z = true) (w4 : (Cond.initialized "java/lang/System").before a0 Z = true) (hpr : refKind ty = false)
    (hA : L[i]? = some (a, wa, .inr ty, vs)) (hB : L[i']? = some (b, true, .inr ty, vd)) (hsp : sp.toInt = ns) (hdp : dp.toInt = nd) (hnn : nn.toInt = n) (h4 : ns + n ≤ vs.length) (h5 : nd + n ≤ vd.length) (hs : vd.take nd ++ (vs.drop ns).take n ++ vd.drop (nd + n) = vd') {L' : List Item} (hL' : L.set i' (b, true, .inr ty, vd') = L')
    (hf : 1 ≤ rm.frames) (hW : (st.map fun v => v.category).sum = W) (hl : W + (nativeFrameWords "java/lang/System" "arraycopy" 5 + 11) ≤ rm.locals) (hls : ls.length = maxL) (k : Wp K cells slots L' pc' ls st) : Wp K cells slots L pc ls (.int nn :: .int dp :: .ref b :: .int sp :: .ref a :: st) := by
  subst hp hs hL'
  have C' := C
  obtain ⟨p, e, s, m, args, below, meth, c, F, rfl, hx, hb, hml, hret, hlk, hown, hnm, hEL, hBB⟩ := C
  intro vm0 k0 T locs X hS hk hnw hZ hF hg hH
  have HA := hH.arr (app_at (F := F) hA)
  have HB := hH.arr (app_at (F := F) hB)
  have hbig : vd.length < 2 ^ 31 := by obtain ⟨c, A, e, q, -⟩ := HB; exact q
  have hbigA : vs.length < 2 ^ 31 := by obtain ⟨c, A, e, q, -⟩ := HA; exact q
  obtain ⟨ka, AA⟩ := HA.arv
  obtain ⟨kb, AB⟩ := HB.arv
  have t1 := toNat_of hsp; have t2 := toNat_of hdp; have t3 := toNat_of hnn
  obtain ⟨T', h', L1, X', rfl, hF', hK, A', stp⟩ := cpA X hx (s := s.setVm vm0) hZ (show vm0.findClass y.cls = some m.cls by rw [hS.1.alike.findClass]; exact hown) w1 w2 w3 w4 rfl AA AB (Or.inl ⟨rfl, hpr⟩) (us := (vs.drop ns).take n) t1.1 t2.1 t3.1 (by rw [t1.2, t3.2, (len32N hbigA).1]; exact h4) (by rw [t2.2, t3.2, (len32N hbig).1]; exact h5) (by rw [t1.2, t3.2]; exact (stretch_eq h4).symm) (by rw [t2.2, t3.2]; exact h5) hF (hH.new (app_at (F := F) hB)).1 (g := mkF m pc ls.toArray (.int nn :: .int dp :: .ref b :: .int sp :: .ref a :: st)) rfl (sz hml hls) rfl (C'.dec hi hb) hf (W := W) (by show 2 * 0 + _ ≤ _; omega) hl
  rw [t2.2, t3.2] at A'
  have hlen : (vd.take nd ++ (vs.drop ns).take n ++ vd.drop (nd + n)).length = vd.length := by
    simp only [List.length_append, List.length_take, List.length_drop]; omega
  have I : It Z T'.heap (b, true, .inr ty, vd.take nd ++ (vs.drop ns).take n ++ vd.drop (nd + n)) := Ay.of_arvP hpr A' (by rw [(len32N hbig).1, hlen]) (by rw [hlen]; exact hbig)
  have hH' := hH.keepO (app_at (F := F) hB) hK I
  rw [app_set hB] at hH'
  obtain ⟨t, o, q1, q2⟩ := k vm0 k0 T' L1 X' hS (Nat.le_trans hk hK.1) hnw hZ hF' (Nat.le_trans hg hK.1) hH'
  exact ⟨t, o, stp t q1, q2⟩
end Rules
end Jvm.Wk
namespace Jvm.Wk
open Sem ClassFile Op Lib Jvm.Stand Jvm.Free Jvm.LawKit Jvm.RoadKit
/-! super calls; words derived from their siblings -/
section Words
variable {Z : State} {a0 : Array Value}
theorem selects_own {Cn : String} {y : MethodName} (hy : y.cls ≠ "java/lang/invoke/MethodHandle" ∧ y.cls ≠ "java/lang/invoke/VarHandle") (hs : (Cond.selects Cn y y).before a0 Z = true) (hpriv : (Cond.privateMethod y).before a0 Z = true) (hinst : (Cond.instanceMethod y).before a0 Z = true) : (Cond.selects y.cls y y).before a0 Z = true := by
  obtain ⟨mk, methM, hnamed, hmethM, -, -⟩ := Cond.instanceMethod_spec hinst
  obtain ⟨c2, r2, m2, -, -, q3, -, kP, hkP, hkPi⟩ := Cond.selects_spec hs
  cases hnamed.symm.trans q3
  have hfound : Z.methodFound? y.cls y.name y.desc = some mk := State.methodFound?_of_named hnamed hy
  have hc := findClass_of_methodNamed hnamed
  have hsel : selectMethod {} Z.vm mk.cls mk = .method mk := selectMethod_private hmethM (Cond.privateMethod_at hpriv mk methM hnamed hmethM)
  simp only [Cond.before, Cond.holds, Cond.value, hc, hfound, hnamed, hsel, hkP]
  simp; exact hkPi
theorem nf_sib {Cn : String} {x w y : MethodName} (hs : (Cond.selects Cn x w).before a0 Z = true) (hc : w.cls = y.cls) : ∀ s : State, Z.Warmed39 s.vm → NotFace s y := fun s hZ r0 h0 => by
  obtain ⟨c2, r2, m2, -, -, q3, -, kP, hkP, hkPi⟩ := Cond.selects_spec (mvT (args := #[]) (s := s) hZ hs)
  have e1 := findClass_of_methodNamed q3
  have e2 := findClass_of_methodNamed h0
  rw [hc] at e1
  have e3 := Option.some.inj (e1.symm.trans e2)
  rw [e3] at hkP
  exact ⟨kP, hkP, hkPi⟩
theorem same_sib {Cn : String} {x w y : MethodName} (hy : y.cls ≠ "java/lang/invoke/MethodHandle" ∧ y.cls ≠ "java/lang/invoke/VarHandle") (hs : (Cond.selects Cn x w).before a0 Z = true) (hc : w.cls = y.cls) (hinst : (Cond.instanceMethod y).before a0 Z = true) : (Cond.sameMethod y.cls y.cls y.name y.desc).before a0 Z = true := by
  obtain ⟨mk, methM, hnamed, hmethM, -, -⟩ := Cond.instanceMethod_spec hinst
  obtain ⟨c2, r2, m2, -, -, q3, -, kP, hkP, hkPi⟩ := Cond.selects_spec hs
  have e1 := findClass_of_methodNamed q3
  have e2 := findClass_of_methodNamed hnamed
  rw [hc] at e1
  have e3 := Option.some.inj (e1.symm.trans e2)
  rw [e3] at hkP
  have hfound : Z.methodFound? y.cls y.name y.desc = some mk := State.methodFound?_of_named hnamed hy
  have hn2 : Z.methodNamed? ⟨y.cls, y.name, y.desc⟩ = some mk := hnamed
  simp only [Cond.before, Cond.holds, Cond.value, e2, hfound, hn2, hkP]
  simp; exact hkPi
end Words
section Rules
variable {K : Cxt} {l : Launch} {Z : State} {a0 : Array Value} {EL : List (String × Nat)} {nw : Bool} {y : MethodName} {bytes : ByteArray} {maxL : Nat} {ret : Option FieldType} {rm : Room} {G : Option Value → List Item → Prop} {B : Prog} {cells slots pc j : Nat} {L : List Item} {ls : List Slot} {st : List Value}
theorem wp_super (C : Cx K l Z a0 EL nw y bytes maxL ret rm G B) {y' : MethodName} {by' : ByteArray} {ml ix : Nat} {rt : Option FieldType} {rm' : Room} {a : Addr} {w : Bool} {Kc : Kd} {vs : List Value} {al rest : List Value} {ps : List FieldType} {L0 L1 : List Item} {G' : Option Value → List Item → Prop} {W : Nat} (j pc' i : Nat)
    (hM : Ct l Z EL nw y' by' ml rt [] rm' (.ref a :: al) L0 G') (hi : B[j]? = some (pc, .invokespecial ix, 3)) (hpc : pc + 3 = pc') (hR : L[i]? = some (a, w, .inl Kc, vs)) (lk : (Cond.methodLink y.cls ix y').before a0 Z = true) (wsm : (Cond.sameMethod y'.cls y'.cls y'.name y'.desc).before a0 Z = true) (wi : (Cond.instanceMethod y').before a0 Z = true) (wsu : (Cond.superclass y.cls y'.cls).before a0 Z = true) (hni : y'.name ≠ "<init>") (wc : (Cond.code y' by' ml rt).before a0 Z = true) (wz : (Cond.initialized y'.cls).before a0 Z = true)
    (hd : parseMethodDescriptor y'.desc = some ⟨ps, rt⟩) (hlen : al.length = ps.length) (hst : st = al.reverse ++ .ref a :: rest) (hW : (rest.map fun v => v.category).sum = W) (hls : ls.length = maxL)
    (hf : rm'.frames + 1 ≤ rm.frames) (hl : W + (ml + 11) + rm'.locals ≤ rm.locals) (hL : L = L0 ++ L1) {cells' slots' : Nat} (hc : cells + rm'.cells = cells') (hsl : slots + rm'.slots = slots') (hc' : cells' ≤ rm.cells) (hs' : slots' ≤ rm.slots) (k : ∀ v L', G' v L' → Wp K cells' slots' (L' ++ L1) pc' ls (v.toList ++ rest)) : Wp K cells slots L pc ls st := by
  refine wp_call C (len := 3) (W := W) hM wc wz hf hl hL (fun p e s m args below meth c vm0 T locs Pre Post hx hb hml hown hZ hI X hK hp => ?_) hpc hc hsl hc' hs' k
  exact superBackS X hx hZ hown lk wsm wi wsu hni hK rfl (Ins.self (It.exa (hI _ (List.mem_of_getElem? hR)))) (g := mkF m pc ls.toArray st) rfl (sz hml hls) wc (argsL := al) (rest := rest) (lenOf hd hlen) hst (by show 2 * 0 + _ ≤ _; omega) (C.dec hi hb) hp
end Rules
end Jvm.Wk
namespace Jvm.Wk
open Sem ClassFile Op Lib Jvm.Stand Jvm.Free Jvm.LawKit Jvm.RoadKit Bundle Jvm.Free.Exc
/-! EXCEPTIONS MADE (KitX): contracts that ask that the tables' methods and the frames beneath are known -/
def Kn : Cxt → Prop
  | (l, p, e, R, s, m, args, below, meth, c, Z, EL, nw, G, F) => s.vm.MethodsKnown ∧ s.vm.FramesKnown below ∧ Ext Z.heap s.heap
def CtK (l : Launch) (Z : State) (EL : List (String × Nat)) (nw : Bool) (y : MethodName) (bytes : ByteArray) (maxL : Nat) (ret : Option FieldType) (ws : List Cond) (rm : Room) (as : List Value) (L : List Item) (G : Option Value → List Item → Prop) : Prop :=
  ∀ F : List Item, MetFree l y (head1 (Cond.code y bytes maxL ret :: ws) rm) (fun a U => a = as.toArray ∧ Z.Warmed39 U.vm ∧ Hp Z EL U.vm U.heap (L ++ F)) (fun _ _ bl s _ => s.vm.MethodsKnown ∧ s.vm.FramesKnown bl) (fun _ U o U' => Fin rm U Z EL nw G F o U')
section Rules
variable {K : Cxt} {l : Launch} {Z : State} {a0 : Array Value} {EL : List (String × Nat)} {nw : Bool} {y : MethodName} {bytes : ByteArray} {maxL : Nat} {ret : Option FieldType} {rm : Room} {G : Option Value → List Item → Prop} {B : Prog} {cells slots pc j : Nat} {L : List Item} {ls : List Slot} {st : List Value}
theorem ct_ofK {as : List Value} {ws : List Cond} (hpl : plainFor y = true) (hB : okB bytes B = true) (hEL : EW Z a0 EL) (he : ∀ m : MethodId, entryFrame m as.toArray maxL = mkF m 0 ls.toArray [])
    (body : ∀ K, Cx K l Z a0 EL nw y bytes maxL ret rm G B → Kn K → Wp K 0 0 L 0 ls []) : CtK l Z EL nw y bytes maxL ret ws rm as L G := by
  intro F
  refine MetFree.of_bodySF hpl hisR ?_
  intro p e s m args below meth c s₁ Bd hml0 hP hK
  obtain ⟨rfl, hZ, hH⟩ := hP
  have X0 : Stand p l e rm (s.setVm s.vm) m as.toArray below meth c s₁ [] 0 0 := Stand.of_body Bd
  have hh : s₁.heap = s.heap := by rw [Bd.state]; rfl
  have hb := body (l, p, e, rm, s, m, as.toArray, below, meth, c, Z, EL, nw, G, F) ⟨p, e, s, m, as.toArray, below, meth, c, F, rfl, Bd.exec, Bd.bytes, hml0, Bd.returns, Bd.notSynchronized, findClass_of_methodNamed Bd.named, (name_of_methodNamed Bd.named Bd.method).1, hEL, hB⟩ ⟨hK.1, hK.2, hH.1⟩
  obtain ⟨t, o, h1, h2, h3, h4⟩ := hb s.vm 0 s₁ [] X0 ((State.WarmedH.refl s).since 0) (Nat.zero_le _) (fun _ => State.WarmedH.refl s) hZ (Fr.nil _) (Nat.le_of_eq (by rw [hh])) (by rw [hh]; exact hH)
  exact ⟨t, o, castTop (he m) h1, h2, h3, h4⟩
theorem ct_backK {y' : MethodName} {by' : ByteArray} {ml : Nat} {rt : Option FieldType} {rm' : Room} {as : List Value} {L0 F : List Item} {G' : Option Value → List Item → Prop} {R : Room} {p : Program} {e : Env} {below : List Frame} {s : State} {args : Array Value} {vm0 : Vm} {len W : Nat} {h : Heap}
    (hM : CtK l Z EL nw y' by' ml rt [] rm' as L0 G') (hZ : Z.Warmed39 vm0) (wc : (Cond.code y' by' ml rt).before a0 Z = true) (wz : (Cond.initialized y'.cls).before a0 Z = true) (hf : rm'.frames + 1 ≤ R.frames) (hl : W + (ml + 11) + rm'.locals ≤ R.locals) (hEL : EW Z a0 EL) (H : Hp Z EL vm0 h (L0 ++ F)) (hTK : vm0.MethodsKnown) (hBelow : vm0.FramesKnown below) :
    BackS l R p e below (s.setVm vm0) args y' len W (fun A a => a = as.toArray ∧ A.U.heap = h ∧ A.cells + rm'.cells ≤ R.cells ∧ A.slots + rm'.slots ≤ R.slots)
      (fun A _ v C => ∃ (Lc : List Loc) (L' : List Item), G' v L' ∧ Hp Z EL C.U.vm C.U.heap (L' ++ F) ∧ Fr Z.heap.size Lc ∧ (nw = true → A.U.WarmedH C.U.vm) ∧ C.locs = A.locs ++ Lc ∧ C.cells = A.cells + rm'.cells ∧ C.slots = A.slots + rm'.slots) :=
  BackS.of_freeWG (bytes := by') (maxL := ml) (ret := rt) (E := fun _ first o t L k n => k = rm'.cells ∧ n = rm'.slots ∧ ∃ v L', o = .returned v ∧ G' v L' ∧ Hp Z EL t.vm t.heap (L' ++ F) ∧ Fr Z.heap.size L ∧ (nw = true → first.WarmedH t.vm)) (hM F) hf hl
    (fun m meth c A a Y hp => have hU : Z.Warmed39 A.U.vm := wtrans (s := s.setVm vm0) hZ Y.warmed
      ⟨by show (Cond.and _ .tt).before a A.U = true; rw [Cond.before_and, mv hU wc]; rfl, mv hU wc, mv hU wz, hp.2.2.1, hp.2.2.2⟩)
    (fun m meth c A a g mk Y hp => ⟨hp.1, wtrans (s := s.setVm vm0) hZ Y.warmed, by
      show Hp Z EL A.U.vm A.U.heap (L0 ++ F)
      rw [hp.2.1]; exact H.at Y hZ hEL⟩) (fun m meth c A a g mk Y _ hg => known_frames Y hg hTK hBelow)
    (fun _ _ _ _ ⟨v, Lc, L', h1, h2, h3, h4, h5, h6, h7⟩ => ⟨Lc, _, _, h7, rfl, rfl, v, L', h1, h2, h3, h4, h5⟩)
    (fun m meth c A a g mk v t Lc k n Y hp _ _ ⟨e1, e2, v', L', e3, e4, e5, e6, e7⟩ => by
      cases e3; subst e1 e2
      exact ⟨Lc, L', e4, e5, e6, e7, rfl, rfl, rfl⟩)
theorem wp_staticK (C : Cx K l Z a0 EL nw y bytes maxL ret rm G B) (hKn : Kn K) {y' : MethodName} {by' : ByteArray} {ml ix : Nat} {rt : Option FieldType} {rm' : Room} {al rest : List Value} {ps : List FieldType} {L0 L1 : List Item} {G' : Option Value → List Item → Prop} {W : Nat} (j pc' : Nat)
    (hM : CtK l Z EL nw y' by' ml rt [] rm' al L0 G') (hi : B[j]? = some (pc, .invokestatic ix, 3)) (hpc : pc + 3 = pc') (lk : (Cond.methodLink y.cls ix y').before a0 Z = true) (ws : (Cond.static y').before a0 Z = true) (wc : (Cond.code y' by' ml rt).before a0 Z = true) (wz : (Cond.initialized y'.cls).before a0 Z = true)
    (hy : y'.cls ≠ "java/lang/invoke/MethodHandle" ∧ y'.cls ≠ "java/lang/invoke/VarHandle") (hd : parseMethodDescriptor y'.desc = some ⟨ps, rt⟩) (hlen : al.length = ps.length) (hst : st = al.reverse ++ rest) (hW : (rest.map fun v => v.category).sum = W) (hls : ls.length = maxL)
    (hf : rm'.frames + 1 ≤ rm.frames) (hl : W + (ml + 11) + rm'.locals ≤ rm.locals) (hL : L = L0 ++ L1) {cells' slots' : Nat} (hc : cells + rm'.cells = cells') (hsl : slots + rm'.slots = slots') (hc' : cells' ≤ rm.cells) (hs' : slots' ≤ rm.slots) (k : ∀ v L', G' v L' → Wp K cells' slots' (L' ++ L1) pc' ls (v.toList ++ rest)) : Wp K cells slots L pc ls st := by
  subst hpc hc hsl hL
  have C' := C
  obtain ⟨p, e, s, m, args, below, meth, c, F, rfl, hx, hb, hml, hret, hlk, hown, hnm, hEL, hB⟩ := C
  intro vm0 k0 T locs X hS hk hn hZ hF hg hH
  have hown' : (s.setVm vm0).vm.findClass y.cls = some m.cls := by rw [show (s.setVm vm0).vm = vm0 from rfl, hS.1.alike.findClass]; exact hown
  obtain ⟨v, vm₁, ⟨U, Lo, kc, ks⟩, hW1, X', hS', hgr, ⟨Lc, L', hG', hH', hFr, hn', e1, e2, e3⟩, hst⟩ := callSS X hx hown' (mvT (s := s.setVm vm0) hZ lk) (mvT (s := s.setVm vm0) hZ ws) (mvT (s := s.setVm vm0) hZ wz) (mvT (s := s.setVm vm0) hZ wc) hy
    (ct_backK (len := 3) (W := W) (F := L1 ++ F) (s := s) (args := args) hM hZ wc wz hf hl hEL (by rw [← List.append_assoc]; exact hH) (Vm.MethodsKnown.alikeC hS.1.alike hKn.1) (Vm.FramesKnown.alikeC hS.1.alike hKn.2.1)) (g := mkF m pc ls.toArray st) rfl (sz hml hls) (argsL := al) (rest := rest) (lenOf hd hlen) hst (by show 2 * 0 + _ ≤ _; omega) (C'.dec hi hb) (fun vm₁ _ => ⟨rfl, rfl, hc', hs'⟩)
  dsimp only [Pt.U, Pt.locs, Pt.cells, Pt.slots] at X' hS' hgr hH' hn' e1 e2 e3 hst
  subst e1 e2 e3
  obtain ⟨t, o, h1, h2⟩ := k v L' hG' U.vm U.heap.size U (locs ++ Lc) X' (hS.trans hS' (Nat.le_trans hk hgr)) (Nat.le_refl _) (fun q => State.WarmedH.trans (t := s.setVm vm0) (hn q) (State.WarmedH.trans (t := T.setVm vm₁) hW1 (hn' q))) (State.Warmed39.trans (t := s.setVm vm0) hZ hS'.1) (Fr.app hF hFr) (Nat.le_trans hg hgr) (by rw [List.append_assoc]; exact hH')
  exact ⟨t, o, hst.trans h1, h2⟩
def lvs : Cond → List Cond
  | .and a b => lvs a ++ lvs b
  | .tt => []
  | c => [c]
theorem of_lvs {args : Array Value} {s : State} (c : Cond) (h : ∀ w ∈ lvs c, w.before args s = true) : c.before args s = true := by
  induction c with
  | and a b iha ihb => rw [Cond.before_and, Bool.and_eq_true]; exact ⟨iha fun w hw => h w (List.mem_append_left _ hw), ihb fun w hw => h w (List.mem_append_right _ hw)⟩
  | tt => rfl
  | _ => exact h _ (List.mem_singleton.mpr rfl)
/-- an exception's constructor X(String) on an object made by this walk -/
theorem wp_exc1 (C : Cx K l Z a0 EL nw y bytes maxL ret rm G B) (hKn : Kn K) (hl : l.stackTraces = true) {links : List Link} {ic n W fb fm : Nat} {a : Addr} {Kc : Kd} {vs : List Value} {msg : Value} (j pc' i : Nat) (hi : B[j]? = some (pc, .invokespecial ic, 3)) (hp : pc + 3 = pc') (hok : linksOk 1 links = true)
    (w1 : (Cond.methodLink y.cls ic (ctor 1 (headName links))).before a0 Z = true) (w2 : (Cond.instanceMethod (ctor 1 (headName links))).before a0 Z = true) (wT : (chainTab 1 Kc.1 links).before a0 Z = true) (wi : (Cond.instantiable Kc.1 n).before a0 Z = true) (r : ∀ d ∈ twoRefs, d.before a0 Z = true)
    (hL : L[i]? = some (a, true, .inl Kc, vs)) (hb1 : Kc.2[fb]? = some ("java/lang/Throwable", "backtrace", "Ljava/lang/Object;")) (hb2 : vs[fb]? = some .null) (hm1 : Kc.2[fm]? = some ("java/lang/Throwable", "detailMessage", "Ljava/lang/String;")) (hm2 : vs[fm]? = some .null) (hmsg : msg.isRef = true)
    {L' : List Item} (hL' : L.set i (a, true, .inl (Kc.1, [("java/lang/Throwable", "detailMessage", "Ljava/lang/String;")]), [msg]) = L') (hf : 4 + links.length ≤ rm.frames) (hW : (st.map fun v => v.category).sum = W) (hlo : W + (56 + 14 * links.length) ≤ rm.locals) (hls : ls.length = maxL)
    {cells' slots' : Nat} (hc : cells + 1 = cells') (hsl : slots + 2752 = slots') (hc' : cells' ≤ rm.cells) (hs' : slots' ≤ rm.slots) (k : Wp K cells' slots' L' pc' ls st) : Wp K cells slots L pc ls (msg :: .ref a :: st) := by
  subst hp hL' hc hsl
  have C' := C
  obtain ⟨p, e, s, m, args, below, meth, c, F, rfl, hx, hb, hml, hret, hlk, hown, hnm, hEL, hB⟩ := C
  intro vm0 k0 T locs X hS hk hn hZ hF hg hH
  have hown' : (s.setVm vm0).vm.findClass y.cls = some m.cls := by rw [show (s.setVm vm0).vm = vm0 from rfl, hS.1.alike.findClass]; exact hown
  have hO := hH.obj (app_at (F := F) hL)
  obtain ⟨T', h', X', rfl, hK, E', N', hM', -, -, stp⟩ := excL1 X hx hl (s := s.setVm vm0) hZ hown' hok w1 w2 wT wi r (ThS.ext hKn.2.2 ThS.start) (ThS.ext hH.1 ThS.start) (Vm.MethodsKnown.alikeC hS.1.alike hKn.1) (Vm.FramesKnown.alikeC hS.1.alike hKn.2.1) rfl hO.1 (hH.unt (app_at (F := F) hL)) (hO.2 fb _ _ hb1 hb2) (hO.2 fm _ _ hm1 hm2) hmsg (g := mkF m pc ls.toArray (msg :: .ref a :: st)) rfl (sz hml hls) rfl (C'.dec hi hb) hf (by rw [hW]; show 2 * 0 + _ + _ ≤ _; omega) hc' hs'
  have I : It Z T'.heap (a, true, .inl (Kc.1, [("java/lang/Throwable", "detailMessage", "Ljava/lang/String;")]), [msg]) := ⟨⟨E', fun q f v hf hv => by
    match q, hf, hv with
    | 0, hf, hv => cases hf; cases hv; exact hM'⟩, fun _ => N'⟩
  have hK1 := keep_of_kp hK
  have hH' := hH.keepO (app_at (F := F) hL) hK1 I
  rw [app_set hL] at hH'
  obtain ⟨t, o, q1, q2⟩ := k vm0 k0 T' _ X' hS (Nat.le_trans hk hK1.1) hn hZ (Fr.six hF (hH.new (app_at (F := F) hL)).1) (Nat.le_trans hg hK1.1) hH'
  exact ⟨t, o, stp t q1, q2⟩
/-- a method that the named class inherits -/
theorem wp_virtualUp (C : Cx K l Z a0 EL nw y bytes maxL ret rm G B) {y' z' : MethodName} {owner : String} {by' : ByteArray} {ml ix : Nat} {rt : Option FieldType} {rm' : Room} {a : Addr} {w : Bool} {Kc : Kd} {vs : List Value} {al rest : List Value} {ps : List FieldType} {L0 L1 : List Item} {G' : Option Value → List Item → Prop} {W : Nat} (j pc' i : Nat)
    (hM : Ct l Z EL nw z' by' ml rt [] rm' (.ref a :: al) L0 G') (hi : B[j]? = some (pc, .invokevirtual ix, 3)) (hpc : pc + 3 = pc') (hR : L[i]? = some (a, w, .inl Kc, vs)) (lk : (Cond.methodLink y.cls ix y').before a0 Z = true) (wsm : (Cond.sameMethod y'.cls owner y'.name y'.desc).before a0 Z = true) (wd : (Cond.declares ⟨owner, y'.name, y'.desc⟩).before a0 Z = true) (hne : owner ≠ "java/lang/invoke/MethodHandle" ∧ owner ≠ "java/lang/invoke/VarHandle") (wsel : (Cond.selects Kc.1 y' z').before a0 Z = true) (wi : (Cond.instanceMethod z').before a0 Z = true) (wc : (Cond.code z' by' ml rt).before a0 Z = true) (wz : (Cond.initialized z'.cls).before a0 Z = true)
    (hd : parseMethodDescriptor y'.desc = some ⟨ps, rt⟩) (hlen : al.length = ps.length) (hst : st = al.reverse ++ .ref a :: rest) (hW : (rest.map fun v => v.category).sum = W) (hls : ls.length = maxL)
    (hf : rm'.frames + 1 ≤ rm.frames) (hl : W + (ml + 11) + rm'.locals ≤ rm.locals) (hL : L = L0 ++ L1) {cells' slots' : Nat} (hc : cells + rm'.cells = cells') (hsl : slots + rm'.slots = slots') (hc' : cells' ≤ rm.cells) (hs' : slots' ≤ rm.slots) (k : ∀ v L', G' v L' → Wp K cells' slots' (L' ++ L1) pc' ls (v.toList ++ rest)) : Wp K cells slots L pc ls st := by
  refine wp_call C (len := 3) (W := W) hM wc wz hf hl hL (fun p e s m args below meth c vm0 T locs Pre Post hx hb hml hown hZ hI X hK hp => ?_) hpc hc hsl hc' hs' k
  obtain ⟨cq, kq, qa, qb, qc⟩ := isOf (s := s.setVm vm0) (T := T) hZ rfl (It.exa (hI _ (List.mem_of_getElem? hR)))
  exact X.virtualBackUpS hx (owner := owner) hown (mvT (s := s.setVm vm0) hZ lk) (mvT (s := s.setVm vm0) hZ wsm) (mvT (s := s.setVm vm0) hZ wd) hne (mvT (s := s.setVm vm0) hZ wsel) (mvT (s := s.setVm vm0) hZ wi) hK qa qc (g := mkF m pc ls.toArray st) rfl (sz hml hls) (Steps.refl _) (argsL := al) (rest := rest) (lenOf hd hlen) hst (by show 2 * 0 + _ ≤ _; omega) (C.dec hi hb) hp
end Rules
end Jvm.Wk
namespace Jvm.Wk
open Jvm.RoadKit
/-! PLAIN: chars and bytes -/
abbrev bt (c : Int32) : Value := .int c.toInt8.toInt32
def Lat (cs : List Int32) : Prop := ∀ c ∈ cs, 0 ≤ c.toInt ∧ c.toInt ≤ 255
theorem b8 (x : Int32) : x.toInt8.toInt32.toInt8.toInt32 = x.toInt8.toInt32 := by simp
theorem len32 {n : Int32} {k : Nat} (h : n.toInt = k) : k.toInt32 = n := by
  have r := rng32 n
  apply Int32.toInt_inj.mp
  rw [h]
  exact len_toInt (by omega)
theorem fill_set {d : List Int32} {n : Nat} {c : Int32} : (d.map bt ++ List.replicate (n + 1) (Value.int 0)).set d.length (bt c) = (d ++ [c]).map bt ++ List.replicate n (Value.int 0) := by
  rw [List.replicate_succ]
  have : d.length = (d.map bt).length := by simp
  rw [this, List.set_append_right _ _ (Nat.le_refl _)]
  simp
theorem bt_inj {x z : Int32} (hx : 0 ≤ x.toInt ∧ x.toInt ≤ 255) (hz : 0 ≤ z.toInt ∧ z.toInt ≤ 255) (h : x.toInt8.toInt32 = z.toInt8.toInt32) : x = z := by
  have h1 := c_i2b x
  have h2 := c_i2b z
  rw [h] at h1
  apply Int32.toInt_inj.mp
  generalize z.toInt8.toInt32 = w at *
  omega
theorem chr_at {d r : List Int32} {c : Int32} : ((d ++ c :: r).map Value.int)[d.length]? = some (.int c) := by simp
theorem coder0 (n : Int32) : nar .byte ((ush (n - n) 31).toInt8.toInt32) = 0 := by rw [Int32.sub_self]; decide +kernel
theorem lat_and (x : Int32) : 0 ≤ (x &&& 255).toInt ∧ (x &&& 255).toInt ≤ 255 := by
  have h := c_and x 255 (by decide)
  rw [show (255 : Int32).toInt = 255 from rfl] at h
  exact h
theorem nar_chr {k : Int32} (h : 0 ≤ k.toInt ∧ k.toInt ≤ 65535) : nar .char k = k := by
  have e := c_i2c k
  apply Int32.toInt_inj.mp
  show (k.toUInt32.toUInt16.toUInt32.toInt32).toInt = k.toInt
  generalize k.toUInt32.toUInt16.toUInt32.toInt32 = z at *
  omega
theorem nar_c (x : Int32) : nar .char ((x &&& 255 : Int32).toUInt32.toUInt16.toUInt32.toInt32) = x &&& 255 := by
  rw [i2c_mask]; exact i2c_mask x
end Jvm.Wk
namespace Jvm.Pilot.@@N@@
open Jvm Jvm.ClassFile Sem Op Lib Jvm.Free Jvm.Stand Jvm.LawKit Jvm.RoadKit Jvm.Wk Bundle Jvm.Pilot.@@N@@.Jvm.D
theorem wd {ts : List Jvm.Cond} {Z : State} {a0 : Array Value} (hw : ∀ d ∈ ts, d.before a0 Z = true) (k : Nat) {d : Jvm.Cond} (h : ts[k]? = some d) : d.before a0 Z = true := hw d (List.mem_of_getElem? h)
abbrev EL1 : List (String × Nat) := [("com/example/remitter/remitter/MediaType", 113), ("java/lang/String", 7)]
abbrev nw1 : Bool := false
theorem ew1 {Z : State} {a0 : Array Value} (hw : ∀ d ∈ tables_1, d.before a0 Z = true) : EW Z a0 EL1 := EW.cons (wd hw 121 rfl) (by decide) (EW.cons (wd hw 24 rfl) (by decide) (EW.nil))
theorem sat {Z : State} {a0 : Array Value} (hw : ∀ d ∈ tables_1, d.before a0 Z = true) : ∀ a ∈ Bundle.stringAtoms, a.before a0 Z = true := by
  intro a ha
  simp only [Bundle.stringAtoms, List.mem_cons, List.not_mem_nil, or_false] at ha
  rcases ha with rfl | rfl | rfl | rfl | rfl | rfl | rfl
  · exact wd hw 12 rfl
  · exact wd hw 11 rfl
  · exact wd hw 25 rfl
  · exact wd hw 26 rfl
  · exact wd hw 27 rfl
  · exact wd hw 28 rfl
  · exact wd hw 29 rfl
theorem shr0 (n : Int32) : n >>> ((0 : Int32) &&& 31) = n := by
  rw [show ((0 : Int32) &&& 31) = 0 from rfl]; simp
theorem and255 : ∀ n : Fin 256, ((Int32.ofNat n.val).toInt8.toInt32 &&& 255) = Int32.ofNat n.val := by decide +kernel
theorem bt_back {c : Int32} (h : 0 ≤ c.toInt ∧ c.toInt ≤ 255) : c.toInt8.toInt32 &&& 255 = c := by
  obtain ⟨n, hn⟩ := Int.eq_ofNat_of_zero_le h.1
  have e : c = Int32.ofNat n := by
    apply Int32.toInt_inj.mp
    rw [hn, Int32.toInt_ofNat_of_lt (by omega)]
  have := and255 ⟨n, by omega⟩
  rw [e]; exact this
def mn (x z : Int32) : Int32 := if x.toInt ≤ z.toInt then x else z
def mx (x z : Int32) : Int32 := if z.toInt ≤ x.toInt then x else z
theorem mn_right {x z : Int32} (h : z.toInt ≤ x.toInt) : mn x z = z := by
  unfold mn; split
  · exact Int32.toInt_inj.mp (by omega)
  · rfl
theorem mm4 {p q : Int32} (hp : 0 ≤ p.toInt ∧ p.toInt ≤ 4) (hq : 0 ≤ q.toInt ∧ q.toInt ≤ 4) : ∃ s e : Nat, (mn p q).toInt = s ∧ (mx p q).toInt = e ∧ s ≤ e ∧ e ≤ 4 := by
  refine ⟨(mn p q).toInt.toNat, (mx p q).toInt.toNat, ?_⟩
  unfold mn mx
  split <;> split <;> omega
theorem rem5 {x : Int32} (h : 0 ≤ x.toInt) : 0 ≤ (x % 5).toInt ∧ (x % 5).toInt ≤ 4 := by
  rw [Int32.toInt_mod, show (5 : Int32).toInt = 5 from rfl, Int.tmod_eq_emod_of_nonneg h]
  omega
theorem slice_at {α : Type} {cs : List α} {s k i : Nat} (hi : i < k) : ((cs.drop s).take k)[i]? = cs[s + i]? := by
  rw [List.getElem?_take_of_lt hi, List.getElem?_drop]
theorem slice_len {α : Type} {cs : List α} {s k : Nat} (h : s + k ≤ cs.length) : ((cs.drop s).take k).length = k := by
  simp; omega
theorem slice_all {α : Type} {cs : List α} : (cs.drop 0).take cs.length = cs := by simp
theorem slice_bt {cs : List Int32} {s k : Nat} {v : Value} : (List.replicate k v).take 0 ++ ((cs.map bt).drop s).take k ++ (List.replicate k v).drop (0 + k) = ((cs.drop s).take k).map bt := by simp [List.map_take, List.map_drop]
theorem ret_chr {c : Int32} (h : 0 ≤ c.toInt ∧ c.toInt ≤ 255) : nar .char ((c.toInt8.toInt32 &&& 255 : Int32).toUInt32.toUInt16.toUInt32.toInt32) = c := by rw [nar_c, bt_back h]
theorem lat_at {cs : List Int32} (h : Lat cs) {i : Nat} {c : Int32} (q : cs[i]? = some c) : 0 ≤ c.toInt ∧ c.toInt ≤ 255 := h c (List.mem_of_getElem? q)
theorem lat_slice {cs : List Int32} (h : Lat cs) {s k : Nat} : Lat ((cs.drop s).take k) := fun c hc => h c (List.mem_of_mem_drop (List.mem_of_mem_take hc))
def kS : Kd := ("java/lang/String", [("java/lang/String", "value", "[B"), ("java/lang/String", "coder", "B")])
theorem kS_ok {Z : State} {a0 : Array Value} (hw : ∀ d ∈ tables_1, d.before a0 Z = true) : KOk Z a0 kS := ⟨⟨⟨Or.inr (wd hw 26 rfl), by decide +kernel⟩, ⟨⟨Or.inr (wd hw 27 rfl), by decide +kernel⟩, trivial⟩⟩, by decide +kernel⟩
theorem kS_df : defs kS = [.null, .int 0] := by decide +kernel
theorem pn0 : plainFor (⟨"java/lang/StringUTF16", "compress", "([CI[BII)I"⟩ : MethodName) = true := by first | (refine plainFor_of_name ?_; simp [plainName, overriddenIn]; done) | (refine plainFor_of_name ?_; decide +kernel) | decide +kernel
def B_rm_cmp5 : Prog := [(0, .iconst 0, 1), (1, .istore 5, 2), (3, .iload 5, 2), (5, .iload 4, 2), (7, .if_icmp .ge 37, 3), (10, .aload_n 0, 1), (11, .iload_n 1, 1), (12, .caload, 1), (13, .istore 6, 2), (15, .iload 6, 2), (17, .sipush 255, 3), (20, .if_icmp .le 6, 3), (26, .aload_n 2, 1), (27, .iload_n 3, 1), (28, .iload 6, 2), (30, .i2b, 1), (31, .bastore, 1), (32, .iinc 1 1, 3), (35, .iinc 3 1, 3), (38, .iinc 5 1, 3), (41, .goto (-38), 3), (44, .iload 4, 2), (46, .ireturn, 1)]
theorem B_rm_cmp5_ok : okB jdk_52_method_21_code B_rm_cmp5 = true := by decide +kernel
set_option maxRecDepth 65536 in
set_option maxHeartbeats 40000000 in
theorem rm_cmp5 (l : Launch) (Z : State) (a0 : Array Value) (hw : ∀ d ∈ tables_1, d.before a0 Z = true) (ca b : Addr) (cs : List Int32) (n : Int32) (hlat : Lat cs) (hn : n.toInt = cs.length) : Ct l Z EL1 nw1 (⟨"java/lang/StringUTF16", "compress", "([CI[BII)I"⟩ : MethodName) jdk_52_method_21_code 7 (some .int) [] ({ frames := 0, cells := 0, slots := 0, locals := 0 } : Room) [.ref ca, .int 0, .ref b, .int 0, .int n] [(ca, true, .inr .char, cs.map Value.int), (b, true, .inr .byte, ([] : List Int32).map bt ++ List.replicate cs.length (.int 0))] (fun v L => v = some (.int n) ∧ L = [(ca, true, .inr .char, cs.map Value.int), (b, true, .inr .byte, cs.map bt)]) := by
  refine ct_of pn0 (B := B_rm_cmp5) (ls := [.val (.ref ca), .val (.int 0), .val (.ref b), .val (.int 0), .val (.int n), .unset, .unset]) B_rm_cmp5_ok (ew1 hw) (fun m => by first | (simp [entryFrame, mkF, argsToLocals, Value.category]; done) | rfl) (fun K C => ?_)
  have rn := rng32 n
  have loop : ∀ (m : Nat) (d r : List Int32) (i : Int32) (s6 : Slot), r.length = m → d ++ r = cs → i.toInt = d.length → (s6 = .unset ∨ ∃ q : Int32, s6 = .val (.int q)) →
      Wp K 0 0 [(ca, true, .inr .char, cs.map Value.int), (b, true, .inr .byte, d.map bt ++ List.replicate r.length (.int 0))] 3 [.val (.ref ca), .val (.int i), .val (.ref b), .val (.int i), .val (.int n), .val (.int i), s6] [] := by
    intro m
    induction m with
    | zero =>
      intro d r i s6 hm hdr hi ho
      obtain rfl := List.length_eq_zero_iff.mp hm
      rw [List.append_nil] at hdr
      subst hdr
      rcases ho with rfl | ⟨q, rfl⟩
      · refine wp_blk C 2 2 (pc' := 7) (ls' := [.val (.ref ca), .val (.int i), .val (.ref b), .val (.int i), .val (.int n), .val (.int i), .unset]) (st' := [.int n, .int i]) rfl ?_
        refine wp_icmp C 4 44 10 rfl rfl rfl (by decide) (fun _ => ?_) (fun h => absurd h (fun q : i.toInt < n.toInt => by omega))
        refine wp_blk C 21 1 (pc' := 46) (ls' := [.val (.ref ca), .val (.int i), .val (.ref b), .val (.int i), .val (.int n), .val (.int i), .unset]) (st' := [.int n]) rfl ?_
        exact wp_retI C 22 rfl (by decide) (by decide) (⟨rfl, by simp⟩)
      · refine wp_blk C 2 2 (pc' := 7) (ls' := [.val (.ref ca), .val (.int i), .val (.ref b), .val (.int i), .val (.int n), .val (.int i), .val (.int q)]) (st' := [.int n, .int i]) rfl ?_
        refine wp_icmp C 4 44 10 rfl rfl rfl (by decide) (fun _ => ?_) (fun h => absurd h (fun q : i.toInt < n.toInt => by omega))
        refine wp_blk C 21 1 (pc' := 46) (ls' := [.val (.ref ca), .val (.int i), .val (.ref b), .val (.int i), .val (.int n), .val (.int i), .val (.int q)]) (st' := [.int n]) rfl ?_
        exact wp_retI C 22 rfl (by decide) (by decide) (⟨rfl, by simp⟩)
    | succ m ih =>
      intro d r i s6 hm hdr hi ho
      obtain ⟨c, r, rfl⟩ : ∃ c r', r = c :: r' := by cases r with | nil => simp at hm | cons c r' => exact ⟨c, r', rfl⟩
      have hm : r.length = m := by simpa using hm
      have hlen : d.length + (r.length + 1) = cs.length := by rw [← hdr]; simp
      have hc := hlat c (by rw [← hdr]; simp)
      subst hdr
      rcases ho with rfl | ⟨q, rfl⟩
      · refine wp_blk C 2 2 (pc' := 7) (ls' := [.val (.ref ca), .val (.int i), .val (.ref b), .val (.int i), .val (.int n), .val (.int i), .unset]) (st' := [.int n, .int i]) rfl ?_
        refine wp_icmp C 4 44 10 rfl rfl rfl (by decide) (fun h => absurd h (fun q : n.toInt ≤ i.toInt => by omega)) (fun _ => ?_)
        refine wp_blk C 5 2 (pc' := 12) (ls' := [.val (.ref ca), .val (.int i), .val (.ref b), .val (.int i), .val (.int n), .val (.int i), .unset]) (st' := [.int i, .ref ca]) rfl ?_
        refine wp_aload C (n := d.length) (v := .int c) 7 13 0 rfl rfl (Or.inr (Or.inr (Or.inl ⟨rfl, rfl⟩))) rfl hi chr_at ?_
        refine wp_blk C 8 3 (pc' := 20) (ls' := [.val (.ref ca), .val (.int i), .val (.ref b), .val (.int i), .val (.int n), .val (.int i), .val (.int c)]) (st' := [.int 255, .int c]) rfl ?_
        refine wp_icmp C 11 26 23 rfl rfl rfl (by decide) (fun _ => ?_) (fun h => absurd h (fun q : (255 : Int32).toInt < c.toInt => by rw [show (255 : Int32).toInt = 255 from rfl] at q; omega))
        refine wp_blk C 12 4 (pc' := 31) (ls' := [.val (.ref ca), .val (.int i), .val (.ref b), .val (.int i), .val (.int n), .val (.int i), .val (.int c)]) (st' := [.int ((c : Int32).toInt8.toInt32), .int i, .ref b]) rfl ?_
        refine wp_stoB C (n := d.length) (vs' := (d ++ [c]).map bt ++ List.replicate r.length (.int 0)) (L' := [(ca, true, .inr .char, ((d ++ c :: r)).map Value.int), (b, true, .inr .byte, (d ++ [c]).map bt ++ List.replicate r.length (.int 0))]) 16 32 1 rfl rfl rfl hi (by simp) (by rw [b8]; exact fill_set) rfl ?_
        refine wp_blk C 17 3 (pc' := 41) (ls' := [.val (.ref ca), .val (.int (i + 1)), .val (.ref b), .val (.int (i + 1)), .val (.int n), .val (.int (i + 1)), .val (.int c)]) (st' := []) rfl ?_
        obtain ⟨i1, hi1⟩ : ∃ nn0 : Int32, nn0 = i + 1 := ⟨_, rfl⟩
        rw [← hi1]
        have Hi1 : i1.toInt = (d.length + 1 : Nat) := by rw [hi1]; exact addI hi one32
        refine wp_blk C 20 1 (pc' := 3) (ls' := [.val (.ref ca), .val (.int i1), .val (.ref b), .val (.int i1), .val (.int n), .val (.int i1), .val (.int c)]) (st' := []) rfl ?_
        have key := ih (d ++ [c]) r i1 (.val (.int c)) hm (by simp) (by rw [Hi1]; simp) (Or.inr ⟨_, rfl⟩)
        exact key
      · refine wp_blk C 2 2 (pc' := 7) (ls' := [.val (.ref ca), .val (.int i), .val (.ref b), .val (.int i), .val (.int n), .val (.int i), .val (.int q)]) (st' := [.int n, .int i]) rfl ?_
        refine wp_icmp C 4 44 10 rfl rfl rfl (by decide) (fun h => absurd h (fun q : n.toInt ≤ i.toInt => by omega)) (fun _ => ?_)
        refine wp_blk C 5 2 (pc' := 12) (ls' := [.val (.ref ca), .val (.int i), .val (.ref b), .val (.int i), .val (.int n), .val (.int i), .val (.int q)]) (st' := [.int i, .ref ca]) rfl ?_
        refine wp_aload C (n := d.length) (v := .int c) 7 13 0 rfl rfl (Or.inr (Or.inr (Or.inl ⟨rfl, rfl⟩))) rfl hi chr_at ?_
        refine wp_blk C 8 3 (pc' := 20) (ls' := [.val (.ref ca), .val (.int i), .val (.ref b), .val (.int i), .val (.int n), .val (.int i), .val (.int c)]) (st' := [.int 255, .int c]) rfl ?_
        refine wp_icmp C 11 26 23 rfl rfl rfl (by decide) (fun _ => ?_) (fun h => absurd h (fun q : (255 : Int32).toInt < c.toInt => by rw [show (255 : Int32).toInt = 255 from rfl] at q; omega))
        refine wp_blk C 12 4 (pc' := 31) (ls' := [.val (.ref ca), .val (.int i), .val (.ref b), .val (.int i), .val (.int n), .val (.int i), .val (.int c)]) (st' := [.int ((c : Int32).toInt8.toInt32), .int i, .ref b]) rfl ?_
        refine wp_stoB C (n := d.length) (vs' := (d ++ [c]).map bt ++ List.replicate r.length (.int 0)) (L' := [(ca, true, .inr .char, ((d ++ c :: r)).map Value.int), (b, true, .inr .byte, (d ++ [c]).map bt ++ List.replicate r.length (.int 0))]) 16 32 1 rfl rfl rfl hi (by simp) (by rw [b8]; exact fill_set) rfl ?_
        refine wp_blk C 17 3 (pc' := 41) (ls' := [.val (.ref ca), .val (.int (i + 1)), .val (.ref b), .val (.int (i + 1)), .val (.int n), .val (.int (i + 1)), .val (.int c)]) (st' := []) rfl ?_
        obtain ⟨i1, hi1⟩ : ∃ nn0 : Int32, nn0 = i + 1 := ⟨_, rfl⟩
        rw [← hi1]
        have Hi1 : i1.toInt = (d.length + 1 : Nat) := by rw [hi1]; exact addI hi one32
        refine wp_blk C 20 1 (pc' := 3) (ls' := [.val (.ref ca), .val (.int i1), .val (.ref b), .val (.int i1), .val (.int n), .val (.int i1), .val (.int c)]) (st' := []) rfl ?_
        have key := ih (d ++ [c]) r i1 (.val (.int c)) hm (by simp) (by rw [Hi1]; simp) (Or.inr ⟨_, rfl⟩)
        exact key
  refine wp_blk C 0 2 (pc' := 3) (ls' := [.val (.ref ca), .val (.int 0), .val (.ref b), .val (.int 0), .val (.int n), .val (.int 0), .unset]) (st' := []) rfl ?_
  exact loop cs.length [] cs 0 _ rfl rfl rfl (Or.inl rfl)
theorem pn1 : plainFor (⟨"java/lang/StringUTF16", "compress", "([CII)[B"⟩ : MethodName) = true := by first | (refine plainFor_of_name ?_; simp [plainName, overriddenIn]; done) | (refine plainFor_of_name ?_; decide +kernel) | decide +kernel
theorem pd0 : parseMethodDescriptor "([CI[BII)I" = some ⟨[(.array .char), .int, (.array .byte), .int, .int], (some .int)⟩ := by decide +kernel
def B_rm_cmp3 : Prog := [(0, .iload_n 2, 1), (1, .newarray .byte, 2), (3, .astore_n 3, 1), (4, .aload_n 0, 1), (5, .iload_n 1, 1), (6, .aload_n 3, 1), (7, .iconst 0, 1), (8, .iload_n 2, 1), (9, .invokestatic 115, 3), (12, .istore 4, 2), (14, .iload 4, 2), (16, .iload_n 2, 1), (17, .if_icmp .eq 40, 3), (57, .aload_n 3, 1), (58, .areturn, 1)]
theorem B_rm_cmp3_ok : okB jdk_52_method_16_code B_rm_cmp3 = true := by decide +kernel
set_option maxRecDepth 65536 in
set_option maxHeartbeats 40000000 in
theorem rm_cmp3 (l : Launch) (Z : State) (a0 : Array Value) (hw : ∀ d ∈ tables_1, d.before a0 Z = true) (ca : Addr) (cs : List Int32) (n : Int32) (hlat : Lat cs) (hn : n.toInt = cs.length) (hcap : cs.length ≤ 16) : Ct l Z EL1 nw1 (⟨"java/lang/StringUTF16", "compress", "([CII)[B"⟩ : MethodName) jdk_52_method_16_code 6 (some (.array .byte)) [] ({ frames := 1, cells := 1, slots := 16, locals := 18 } : Room) [.ref ca, .int 0, .int n] [(ca, true, .inr .char, cs.map Value.int)] (fun v L => ∃ b : Addr, v = some (.ref b) ∧ L = [(ca, true, .inr .char, cs.map Value.int), (b, true, .inr .byte, cs.map bt)]) := by
  refine ct_of pn1 (B := B_rm_cmp3) (ls := [.val (.ref ca), .val (.int 0), .val (.int n), .unset, .unset, .unset]) B_rm_cmp3_ok (ew1 hw) (fun m => by first | (simp [entryFrame, mkF, argsToLocals, Value.category]; done) | rfl) (fun K C => ?_)
  refine wp_blk C 0 1 (pc' := 1) (ls' := [.val (.ref ca), .val (.int 0), .val (.int n), .unset, .unset, .unset]) (st' := [.int n]) rfl ?_
  refine wp_newA C (n := cs.length) (cap := 16) (cells' := 1) (slots' := 16) (vs := List.replicate cs.length (.int 0)) 1 3 rfl rfl (wd hw 25 rfl) hn hcap (by decide) rfl rfl (by decide) (by decide) rfl (fun b => ?_)
  refine wp_blk C 2 6 (pc' := 9) (ls' := [.val (.ref ca), .val (.int 0), .val (.int n), .val (.ref b), .unset, .unset]) (st' := [.int n, .int 0, .ref b, .int 0, .ref ca]) rfl ?_
  refine wp_front C 1 (L' := [(ca, true, .inr .char, cs.map Value.int), (b, true, .inr .byte, List.replicate cs.length (.int 0))]) rfl ?_
  refine wp_static C (al := [.ref ca, .int 0, .ref b, .int 0, .int n]) (rest := []) (L1 := []) (W := 0) (cells' := 1) (slots' := 16) 8 12 (rm_cmp5 l Z a0 hw ca b cs n hlat hn) rfl rfl (wd hw 177 rfl) (wd hw 178 rfl) (wd hw 179 rfl) (wd hw 175 rfl) (by decide) pd0 rfl rfl rfl rfl (by decide) (by decide) rfl rfl rfl (by decide) (by decide) (fun v L' hQ => ?_)
  obtain ⟨rfl, rfl⟩ := hQ
  show Wp K 1 16 [(ca, true, .inr .char, cs.map Value.int), (b, true, .inr .byte, cs.map bt)] 12 [.val (.ref ca), .val (.int 0), .val (.int n), .val (.ref b), .unset, .unset] [.int n]
  refine wp_blk C 9 3 (pc' := 17) (ls' := [.val (.ref ca), .val (.int 0), .val (.int n), .val (.ref b), .val (.int n), .unset]) (st' := [.int n, .int n]) rfl ?_
  refine wp_icmp C 12 57 20 rfl rfl rfl (by decide) (fun _ => ?_) (fun h => absurd h (fun q : n ≠ n => q rfl))
  refine wp_blk C 13 1 (pc' := 58) (ls' := [.val (.ref ca), .val (.int 0), .val (.int n), .val (.ref b), .val (.int n), .unset]) (st' := [.ref b]) rfl ?_
  exact wp_retA C 14 rfl rfl rfl (by decide) (by decide) (⟨b, rfl, rfl⟩)
theorem pn2 : plainFor (⟨"java/lang/StringUTF16", "coderFromArrayLen", "([BI)B"⟩ : MethodName) = true := by first | (refine plainFor_of_name ?_; simp [plainName, overriddenIn]; done) | (refine plainFor_of_name ?_; decide +kernel) | decide +kernel
def B_rm_cod : Prog := [(0, .iload_n 1, 1), (1, .aload_n 0, 1), (2, .arraylength, 1), (3, .isub, 1), (4, .bipush 31, 2), (6, .iushr, 1), (7, .i2b, 1), (8, .ireturn, 1)]
theorem B_rm_cod_ok : okB jdk_52_method_15_code B_rm_cod = true := by decide +kernel
set_option maxRecDepth 65536 in
set_option maxHeartbeats 40000000 in
theorem rm_cod (l : Launch) (Z : State) (a0 : Array Value) (hw : ∀ d ∈ tables_1, d.before a0 Z = true) (b : Addr) (cs : List Int32) (n : Int32) (hn : n.toInt = cs.length) : Ct l Z EL1 nw1 (⟨"java/lang/StringUTF16", "coderFromArrayLen", "([BI)B"⟩ : MethodName) jdk_52_method_15_code 2 (some .byte) [] ({ frames := 0, cells := 0, slots := 0, locals := 0 } : Room) [.ref b, .int n] [(b, true, .inr .byte, cs.map bt)] (fun v L => v = some (.int 0) ∧ L = [(b, true, .inr .byte, cs.map bt)]) := by
  refine ct_of pn2 (B := B_rm_cod) (ls := [.val (.ref b), .val (.int n)]) B_rm_cod_ok (ew1 hw) (fun m => by first | (simp [entryFrame, mkF, argsToLocals, Value.category]; done) | rfl) (fun K C => ?_)
  refine wp_blk C 0 2 (pc' := 2) (ls' := [.val (.ref b), .val (.int n)]) (st' := [.ref b, .int n]) rfl ?_
  refine wp_len C (z := n) 2 3 0 rfl rfl rfl (by rw [List.length_map]; exact len32 hn) ?_
  refine wp_blk C 3 4 (pc' := 8) (ls' := [.val (.ref b), .val (.int n)]) (st' := [.int ((ush (n - n) 31 : Int32).toInt8.toInt32)]) rfl ?_
  exact wp_retN C 7 rfl (Or.inr (Or.inl rfl)) (coder0 n) (by decide) (by decide) (⟨rfl, rfl⟩)
theorem pn3 : plainFor (⟨"java/lang/String", "<init>", "([CIILjava/lang/Void;)V"⟩ : MethodName) = true := by first | (refine plainFor_of_name ?_; simp [plainName, overriddenIn]; done) | (refine plainFor_of_name ?_; decide +kernel) | decide +kernel
theorem pd1 : parseMethodDescriptor "([CII)[B" = some ⟨[(.array .char), .int, .int], (some (.array .byte))⟩ := by decide +kernel
theorem pd2 : parseMethodDescriptor "([BI)B" = some ⟨[(.array .byte), .int], (some .byte)⟩ := by decide +kernel
theorem fd0 : parseFieldDescriptor "B" = some .byte := by decide +kernel
theorem fd1 : parseFieldDescriptor "[B" = some (.array .byte) := by decide +kernel
def B_rm_ct4 : Prog := [(0, .aload_n 0, 1), (1, .invokespecial 1, 3), (4, .iload_n 3, 1), (5, .ifCond .ne 22, 3), (27, .getstatic 38, 3), (30, .ifCond .eq 28, 3), (33, .aload_n 1, 1), (34, .iload_n 2, 1), (35, .iload_n 3, 1), (36, .invokestatic 177, 3), (39, .astore 5, 2), (41, .aload_n 0, 1), (42, .aload 5, 2), (44, .iload_n 3, 1), (45, .invokestatic 47, 3), (48, .putfield 15, 3), (51, .aload_n 0, 1), (52, .aload 5, 2), (54, .putfield 9, 3), (57, .return_, 1)]
theorem B_rm_ct4_ok : okB jdk_42_method_149_code B_rm_ct4 = true := by decide +kernel
set_option maxRecDepth 65536 in
set_option maxHeartbeats 40000000 in
theorem rm_ct4 (l : Launch) (Z : State) (a0 : Array Value) (hw : ∀ d ∈ tables_1, d.before a0 Z = true) (sa ca : Addr) (cs : List Int32) (n : Int32) (cz : Int32) (S1 : Sta Z Z.heap "java/lang/String" "COMPACT_STRINGS" "Z" (.int cz)) (hcz : cz ≠ 0) (hlat : Lat cs) (hn : n.toInt = cs.length) (h0 : 0 < cs.length) (hcap : cs.length ≤ 16) : Ct l Z EL1 nw1 (⟨"java/lang/String", "<init>", "([CIILjava/lang/Void;)V"⟩ : MethodName) jdk_42_method_149_code 6 none [] ({ frames := 2, cells := 1, slots := 16, locals := 36 } : Room) [.ref sa, .ref ca, .int 0, .int n, .null] [(sa, true, .inl kS, [.null, .int 0]), (ca, true, .inr .char, cs.map Value.int)] (fun v L => v = none ∧ ∃ b : Addr, L = [(sa, true, .inl kS, [.ref b, .int 0]), (b, true, .inr .byte, cs.map bt), (ca, true, .inr .char, cs.map Value.int)]) := by
  refine ct_of pn3 (B := B_rm_ct4) (ls := [.val (.ref sa), .val (.ref ca), .val (.int 0), .val (.int n), .val (.null), .unset]) B_rm_ct4_ok (ew1 hw) (fun m => by first | (simp [entryFrame, mkF, argsToLocals, Value.category]; done) | rfl) (fun K C => ?_)
  refine wp_blk C 0 1 (pc' := 1) (ls' := [.val (.ref sa), .val (.ref ca), .val (.int 0), .val (.int n), .val (.null), .unset]) (st' := [.ref sa]) rfl ?_
  refine wp_initO C (W := 0) 1 4 rfl rfl (wd hw 21 rfl) (wd hw 22 rfl) (wd hw 23 rfl) (by decide) rfl (by decide) rfl ?_
  refine wp_blk C 2 1 (pc' := 5) (ls' := [.val (.ref sa), .val (.ref ca), .val (.int 0), .val (.int n), .val (.null), .unset]) (st' := [.int n]) rfl ?_
  refine wp_ifz C 3 27 8 rfl rfl rfl (by decide) (fun _ => ?_) (fun h => absurd h (fun q : n = 0 => by rw [q, zero32] at hn; omega))
  refine wp_getS C 4 30 rfl rfl (wd hw 93 rfl) Via.refl S1 ?_
  refine wp_ifz C 5 58 33 rfl rfl rfl (by decide) (fun h => absurd h (hcz)) (fun _ => ?_)
  refine wp_blk C 6 3 (pc' := 36) (ls' := [.val (.ref sa), .val (.ref ca), .val (.int 0), .val (.int n), .val (.null), .unset]) (st' := [.int n, .int 0, .ref ca]) rfl ?_
  refine wp_front C 1 (L' := [(ca, true, .inr .char, cs.map Value.int), (sa, true, .inl kS, [.null, .int 0])]) rfl ?_
  refine wp_static C (al := [.ref ca, .int 0, .int n]) (rest := []) (L1 := [(sa, true, .inl kS, [.null, .int 0])]) (W := 0) (cells' := 1) (slots' := 16) 9 39 (rm_cmp3 l Z a0 hw ca cs n hlat hn hcap) rfl rfl (wd hw 173 rfl) (wd hw 174 rfl) (wd hw 176 rfl) (wd hw 175 rfl) (by decide) pd1 rfl rfl rfl rfl (by decide) (by decide) rfl rfl rfl (by decide) (by decide) (fun v L' hQ => ?_)
  obtain ⟨b, rfl, rfl⟩ := hQ
  show Wp K 1 16 [(ca, true, .inr .char, cs.map Value.int), (b, true, .inr .byte, cs.map bt), (sa, true, .inl kS, [.null, .int 0])] 39 [.val (.ref sa), .val (.ref ca), .val (.int 0), .val (.int n), .val (.null), .unset] [.ref b]
  refine wp_blk C 10 4 (pc' := 45) (ls' := [.val (.ref sa), .val (.ref ca), .val (.int 0), .val (.int n), .val (.null), .val (.ref b)]) (st' := [.int n, .ref b, .ref sa]) rfl ?_
  refine wp_front C 1 (L' := [(b, true, .inr .byte, cs.map bt), (ca, true, .inr .char, cs.map Value.int), (sa, true, .inl kS, [.null, .int 0])]) rfl ?_
  refine wp_static C (al := [.ref b, .int n]) (rest := [.ref sa]) (L1 := [(ca, true, .inr .char, cs.map Value.int), (sa, true, .inl kS, [.null, .int 0])]) (W := 1) (cells' := 1) (slots' := 16) 14 48 (rm_cod l Z a0 hw b cs n hn) rfl rfl (wd hw 180 rfl) (wd hw 181 rfl) (wd hw 182 rfl) (wd hw 175 rfl) (by decide) pd2 rfl rfl rfl rfl (by decide) (by decide) rfl rfl rfl (by decide) (by decide) (fun v L' hQ => ?_)
  obtain ⟨rfl, rfl⟩ := hQ
  show Wp K 1 16 [(b, true, .inr .byte, cs.map bt), (ca, true, .inr .char, cs.map Value.int), (sa, true, .inl kS, [.null, .int 0])] 48 [.val (.ref sa), .val (.ref ca), .val (.int 0), .val (.int n), .val (.null), .val (.ref b)] [.int 0, .ref sa]
  refine wp_put C (ty := .byte) (v := .int 0) (vs' := [.null, .int 0]) (L' := [(b, true, .inr .byte, cs.map bt), (ca, true, .inr .char, cs.map Value.int), (sa, true, .inl kS, [.null, .int 0])]) 15 51 2 1 rfl rfl (wd hw 31 rfl) Via.refl (Or.inr ⟨wd hw 27 rfl, rfl, rfl⟩) (wd hw 11 rfl) (kS_ok hw) fd0 rfl rfl rfl rfl rfl rfl rfl ?_
  refine wp_blk C 16 2 (pc' := 54) (ls' := [.val (.ref sa), .val (.ref ca), .val (.int 0), .val (.int n), .val (.null), .val (.ref b)]) (st' := [.ref b, .ref sa]) rfl ?_
  refine wp_put C (ty := (.array .byte)) (v := .ref b) (vs' := [.ref b, .int 0]) (L' := [(b, true, .inr .byte, cs.map bt), (ca, true, .inr .char, cs.map Value.int), (sa, true, .inl kS, [.ref b, .int 0])]) 18 57 2 0 rfl rfl (wd hw 30 rfl) Via.refl (Or.inr ⟨wd hw 26 rfl, rfl, rfl⟩) (wd hw 11 rfl) (kS_ok hw) fd1 rfl rfl rfl rfl rfl rfl rfl ?_
  refine wp_front C 1 (L' := [(ca, true, .inr .char, cs.map Value.int), (b, true, .inr .byte, cs.map bt), (sa, true, .inl kS, [.ref b, .int 0])]) rfl ?_
  refine wp_front C 1 (L' := [(b, true, .inr .byte, cs.map bt), (ca, true, .inr .char, cs.map Value.int), (sa, true, .inl kS, [.ref b, .int 0])]) rfl ?_
  refine wp_front C 2 (L' := [(sa, true, .inl kS, [.ref b, .int 0]), (b, true, .inr .byte, cs.map bt), (ca, true, .inr .char, cs.map Value.int)]) rfl ?_
  exact wp_ret0 C 19 rfl (by decide) (by decide) (⟨rfl, b, rfl⟩)
theorem pn4 : plainFor (⟨"java/lang/String", "<init>", "([C)V"⟩ : MethodName) = true := by first | (refine plainFor_of_name ?_; simp [plainName, overriddenIn]; done) | (refine plainFor_of_name ?_; decide +kernel) | decide +kernel
theorem pd3 : parseMethodDescriptor "([CIILjava/lang/Void;)V" = some ⟨[(.array .char), .int, .int, (.object "java/lang/Void")], none⟩ := by decide +kernel
def B_rm_str : Prog := [(0, .aload_n 0, 1), (1, .aload_n 1, 1), (2, .iconst 0, 1), (3, .aload_n 1, 1), (4, .arraylength, 1), (5, .aconst_null, 1), (6, .invokespecial 27, 3), (9, .return_, 1)]
theorem B_rm_str_ok : okB jdk_42_method_3_code B_rm_str = true := by decide +kernel
set_option maxRecDepth 65536 in
set_option maxHeartbeats 40000000 in
theorem rm_str (l : Launch) (Z : State) (a0 : Array Value) (hw : ∀ d ∈ tables_1, d.before a0 Z = true) (sa ca : Addr) (cs : List Int32) (cz : Int32) (S1 : Sta Z Z.heap "java/lang/String" "COMPACT_STRINGS" "Z" (.int cz)) (hcz : cz ≠ 0) (hlat : Lat cs) (h0 : 0 < cs.length) (hcap : cs.length ≤ 16) : Ct l Z EL1 nw1 (⟨"java/lang/String", "<init>", "([C)V"⟩ : MethodName) jdk_42_method_3_code 2 none [] ({ frames := 3, cells := 1, slots := 16, locals := 53 } : Room) [.ref sa, .ref ca] [(sa, true, .inl kS, [.null, .int 0]), (ca, true, .inr .char, cs.map Value.int)] (fun v L => v = none ∧ ∃ b : Addr, L = [(sa, true, .inl kS, [.ref b, .int 0]), (b, true, .inr .byte, cs.map bt), (ca, true, .inr .char, cs.map Value.int)]) := by
  refine ct_of pn4 (B := B_rm_str) (ls := [.val (.ref sa), .val (.ref ca)]) B_rm_str_ok (ew1 hw) (fun m => by first | (simp [entryFrame, mkF, argsToLocals, Value.category]; done) | rfl) (fun K C => ?_)
  refine wp_blk C 0 4 (pc' := 4) (ls' := [.val (.ref sa), .val (.ref ca)]) (st' := [.ref ca, .int 0, .ref ca, .ref sa]) rfl ?_
  obtain ⟨n, hnn⟩ : ∃ n : Int32, cs.length.toInt32 = n := ⟨_, rfl⟩
  have hn : n.toInt = cs.length := by rw [← hnn]; exact len_toInt (by omega)
  refine wp_len C (z := n) 4 5 1 rfl rfl rfl (by rw [List.length_map]; exact hnn) ?_
  refine wp_blk C 5 1 (pc' := 6) (ls' := [.val (.ref sa), .val (.ref ca)]) (st' := [.null, .int n, .int 0, .ref ca, .ref sa]) rfl ?_
  refine wp_init C (al := [.ref ca, .int 0, .int n, .null]) (rest := []) (L1 := []) (W := 0) (cells' := 1) (slots' := 16) 6 9 (rm_ct4 l Z a0 hw sa ca cs n cz S1 hcz hlat hn h0 hcap) rfl rfl (wd hw 17 rfl) (wd hw 18 rfl) (wd hw 20 rfl) (wd hw 12 rfl) rfl (by decide) pd3 rfl rfl rfl rfl (by decide) (by decide) rfl rfl rfl (by decide) (by decide) (fun v L' hQ => ?_)
  obtain ⟨rfl, b, rfl⟩ := hQ
  show Wp K 1 16 [(sa, true, .inl kS, [.ref b, .int 0]), (b, true, .inr .byte, cs.map bt), (ca, true, .inr .char, cs.map Value.int)] 9 [.val (.ref sa), .val (.ref ca)] []
  exact wp_ret0 C 7 rfl (by decide) (by decide) (⟨rfl, b, rfl⟩)
def B_rm_ct0 : Prog := [(0, .aload_n 0, 1), (1, .invokespecial 1, 3), (4, .iload_n 3, 1), (5, .ifCond .ne 22, 3), (8, .aload_n 0, 1), (9, .ldc 7, 2), (11, .getfield 9, 3), (14, .putfield 9, 3), (17, .aload_n 0, 1), (18, .ldc 7, 2), (20, .getfield 15, 3), (23, .putfield 15, 3), (26, .return_, 1)]
theorem B_rm_ct0_ok : okB jdk_42_method_149_code B_rm_ct0 = true := by decide +kernel
set_option maxRecDepth 65536 in
set_option maxHeartbeats 40000000 in
theorem rm_ct0 (l : Launch) (Z : State) (a0 : Array Value) (hw : ∀ d ∈ tables_1, d.before a0 Z = true) (sa ca : Addr) : Ct l Z EL1 nw1 (⟨"java/lang/String", "<init>", "([CIILjava/lang/Void;)V"⟩ : MethodName) jdk_42_method_149_code 6 none [] ({ frames := 1, cells := 4, slots := 8, locals := 13 } : Room) [.ref sa, .ref ca, .int 0, .int 0, .null] [(sa, true, .inl kS, [.null, .int 0]), (ca, true, .inr .char, ([] : List Value))] (fun v L => v = none ∧ ∃ b : Addr, L = [(sa, true, .inl kS, [.ref b, .int 0]), (b, false, .inr .byte, ([] : List Value)), (ca, true, .inr .char, ([] : List Value))]) := by
  refine ct_of pn3 (B := B_rm_ct0) (ls := [.val (.ref sa), .val (.ref ca), .val (.int 0), .val (.int 0), .val (.null), .unset]) B_rm_ct0_ok (ew1 hw) (fun m => by first | (simp [entryFrame, mkF, argsToLocals, Value.category]; done) | rfl) (fun K C => ?_)
  refine wp_blk C 0 1 (pc' := 1) (ls' := [.val (.ref sa), .val (.ref ca), .val (.int 0), .val (.int 0), .val (.null), .unset]) (st' := [.ref sa]) rfl ?_
  refine wp_initO C (W := 0) 1 4 rfl rfl (wd hw 21 rfl) (wd hw 22 rfl) (wd hw 23 rfl) (by decide) rfl (by decide) rfl ?_
  refine wp_blk C 2 1 (pc' := 5) (ls' := [.val (.ref sa), .val (.ref ca), .val (.int 0), .val (.int 0), .val (.null), .unset]) (st' := [.int 0]) rfl ?_
  refine wp_ifz C 3 27 8 rfl rfl rfl (by decide) (fun h => absurd h (fun q : (0 : Int32) ≠ 0 => q rfl)) (fun _ => ?_)
  refine wp_blk C 4 1 (pc' := 9) (ls' := [.val (.ref sa), .val (.ref ca), .val (.int 0), .val (.int 0), .val (.null), .unset]) (st' := [.ref sa]) rfl ?_
  refine wp_ldcC C (n := 0) (vs := []) (Kc := kS) (mk := fun b => [.ref b, .int 0]) (cells' := 2) (slots' := 4) 0 5 11 rfl rfl (wd hw 24 rfl) (sat hw) (by decide) (by decide +kernel) (by decide) (by decide) (by decide) (Or.inl ⟨rfl, rfl⟩) (by decide) (by decide) rfl rfl (by decide) (by decide) (fun u1 b1 => ?_)
  refine wp_get C 6 14 0 0 rfl rfl (wd hw 30 rfl) Via.refl rfl rfl rfl ?_
  refine wp_put C (ty := (.array .byte)) (v := .ref b1) (vs' := [.ref b1, .int 0]) (L' := [(u1, false, .inl kS, [.ref b1, .int 0]), (b1, false, .inr .byte, []), (sa, true, .inl kS, [.ref b1, .int 0]), (ca, true, .inr .char, ([] : List Value))]) 7 17 2 0 rfl rfl (wd hw 30 rfl) Via.refl (Or.inr ⟨wd hw 26 rfl, rfl, rfl⟩) (wd hw 11 rfl) (kS_ok hw) fd1 rfl rfl rfl rfl rfl rfl rfl ?_
  refine wp_blk C 8 1 (pc' := 18) (ls' := [.val (.ref sa), .val (.ref ca), .val (.int 0), .val (.int 0), .val (.null), .unset]) (st' := [.ref sa]) rfl ?_
  refine wp_ldcC C (n := 0) (vs := []) (Kc := kS) (mk := fun b => [.ref b, .int 0]) (cells' := 4) (slots' := 8) 0 9 20 rfl rfl (wd hw 24 rfl) (sat hw) (by decide) (by decide +kernel) (by decide) (by decide) (by decide) (Or.inl ⟨rfl, rfl⟩) (by decide) (by decide) rfl rfl (by decide) (by decide) (fun u2 b2 => ?_)
  refine wp_get C 10 23 0 1 rfl rfl (wd hw 31 rfl) Via.refl rfl rfl rfl ?_
  refine wp_put C (ty := .byte) (v := .int 0) (vs' := [.ref b1, .int 0]) (L' := [(u2, false, .inl kS, [.ref b2, .int 0]), (b2, false, .inr .byte, []), (u1, false, .inl kS, [.ref b1, .int 0]), (b1, false, .inr .byte, []), (sa, true, .inl kS, [.ref b1, .int 0]), (ca, true, .inr .char, ([] : List Value))]) 11 26 4 1 rfl rfl (wd hw 31 rfl) Via.refl (Or.inr ⟨wd hw 27 rfl, rfl, rfl⟩) (wd hw 11 rfl) (kS_ok hw) fd0 rfl rfl rfl rfl rfl rfl rfl ?_
  refine wp_drop C 0 (L' := [(b2, false, .inr .byte, []), (u1, false, .inl kS, [.ref b1, .int 0]), (b1, false, .inr .byte, []), (sa, true, .inl kS, [.ref b1, .int 0]), (ca, true, .inr .char, ([] : List Value))]) rfl ?_
  refine wp_drop C 0 (L' := [(u1, false, .inl kS, [.ref b1, .int 0]), (b1, false, .inr .byte, []), (sa, true, .inl kS, [.ref b1, .int 0]), (ca, true, .inr .char, ([] : List Value))]) rfl ?_
  refine wp_drop C 0 (L' := [(b1, false, .inr .byte, []), (sa, true, .inl kS, [.ref b1, .int 0]), (ca, true, .inr .char, ([] : List Value))]) rfl ?_
  refine wp_front C 2 (L' := [(ca, true, .inr .char, ([] : List Value)), (b1, false, .inr .byte, []), (sa, true, .inl kS, [.ref b1, .int 0])]) rfl ?_
  refine wp_front C 1 (L' := [(b1, false, .inr .byte, []), (ca, true, .inr .char, ([] : List Value)), (sa, true, .inl kS, [.ref b1, .int 0])]) rfl ?_
  refine wp_front C 2 (L' := [(sa, true, .inl kS, [.ref b1, .int 0]), (b1, false, .inr .byte, []), (ca, true, .inr .char, ([] : List Value))]) rfl ?_
  exact wp_ret0 C 12 rfl (by decide) (by decide) (⟨rfl, b1, rfl⟩)
def B_rm_str0 : Prog := [(0, .aload_n 0, 1), (1, .aload_n 1, 1), (2, .iconst 0, 1), (3, .aload_n 1, 1), (4, .arraylength, 1), (5, .aconst_null, 1), (6, .invokespecial 27, 3), (9, .return_, 1)]
theorem B_rm_str0_ok : okB jdk_42_method_3_code B_rm_str0 = true := by decide +kernel
set_option maxRecDepth 65536 in
set_option maxHeartbeats 40000000 in
theorem rm_str0 (l : Launch) (Z : State) (a0 : Array Value) (hw : ∀ d ∈ tables_1, d.before a0 Z = true) (sa ca : Addr) : Ct l Z EL1 nw1 (⟨"java/lang/String", "<init>", "([C)V"⟩ : MethodName) jdk_42_method_3_code 2 none [] ({ frames := 2, cells := 4, slots := 8, locals := 32 } : Room) [.ref sa, .ref ca] [(sa, true, .inl kS, [.null, .int 0]), (ca, true, .inr .char, ([] : List Value))] (fun v L => v = none ∧ ∃ b : Addr, L = [(sa, true, .inl kS, [.ref b, .int 0]), (b, false, .inr .byte, ([] : List Value)), (ca, true, .inr .char, ([] : List Value))]) := by
  refine ct_of pn4 (B := B_rm_str0) (ls := [.val (.ref sa), .val (.ref ca)]) B_rm_str0_ok (ew1 hw) (fun m => by first | (simp [entryFrame, mkF, argsToLocals, Value.category]; done) | rfl) (fun K C => ?_)
  refine wp_blk C 0 4 (pc' := 4) (ls' := [.val (.ref sa), .val (.ref ca)]) (st' := [.ref ca, .int 0, .ref ca, .ref sa]) rfl ?_
  refine wp_len C (z := 0) 4 5 1 rfl rfl rfl rfl ?_
  refine wp_blk C 5 1 (pc' := 6) (ls' := [.val (.ref sa), .val (.ref ca)]) (st' := [.null, .int 0, .int 0, .ref ca, .ref sa]) rfl ?_
  refine wp_init C (al := [.ref ca, .int 0, .int 0, .null]) (rest := []) (L1 := []) (W := 0) (cells' := 4) (slots' := 8) 6 9 (rm_ct0 l Z a0 hw sa ca) rfl rfl (wd hw 17 rfl) (wd hw 18 rfl) (wd hw 20 rfl) (wd hw 12 rfl) rfl (by decide) pd3 rfl rfl rfl rfl (by decide) (by decide) rfl rfl rfl (by decide) (by decide) (fun v L' hQ => ?_)
  obtain ⟨rfl, b, rfl⟩ := hQ
  show Wp K 4 8 [(sa, true, .inl kS, [.ref b, .int 0]), (b, false, .inr .byte, ([] : List Value)), (ca, true, .inr .char, ([] : List Value))] 9 [.val (.ref sa), .val (.ref ca)] []
  exact wp_ret0 C 7 rfl (by decide) (by decide) (⟨rfl, b, rfl⟩)
theorem pn5 : plainFor (⟨"java/lang/String", "coder", "()B"⟩ : MethodName) = true := by first | (refine plainFor_of_name ?_; simp [plainName, overriddenIn]; done) | (refine plainFor_of_name ?_; decide +kernel) | decide +kernel
def B_rm_sco : Prog := [(0, .getstatic 38, 3), (3, .ifCond .eq 10, 3), (6, .aload_n 0, 1), (7, .getfield 15, 3), (10, .goto 4, 3), (14, .ireturn, 1)]
theorem B_rm_sco_ok : okB jdk_42_method_152_code B_rm_sco = true := by decide +kernel
set_option maxRecDepth 65536 in
set_option maxHeartbeats 40000000 in
theorem rm_sco (l : Launch) (Z : State) (a0 : Array Value) (hw : ∀ d ∈ tables_1, d.before a0 Z = true) (sa b : Addr) (w : Bool) (cz : Int32) (S1 : Sta Z Z.heap "java/lang/String" "COMPACT_STRINGS" "Z" (.int cz)) (hcz : cz ≠ 0) : Ct l Z EL1 nw1 (⟨"java/lang/String", "coder", "()B"⟩ : MethodName) jdk_42_method_152_code 1 (some .byte) [] ({ frames := 0, cells := 0, slots := 0, locals := 0 } : Room) [.ref sa] [(sa, w, .inl kS, [.ref b, .int 0])] (fun v L => v = some (.int 0) ∧ L = [(sa, w, .inl kS, [.ref b, .int 0])]) := by
  refine ct_of pn5 (B := B_rm_sco) (ls := [.val (.ref sa)]) B_rm_sco_ok (ew1 hw) (fun m => by first | (simp [entryFrame, mkF, argsToLocals, Value.category]; done) | rfl) (fun K C => ?_)
  refine wp_getS C 0 3 rfl rfl (wd hw 93 rfl) Via.refl S1 ?_
  refine wp_ifz C 1 13 6 rfl rfl rfl (by decide) (fun h => absurd h (hcz)) (fun _ => ?_)
  refine wp_blk C 2 1 (pc' := 7) (ls' := [.val (.ref sa)]) (st' := [.ref sa]) rfl ?_
  refine wp_get C 3 10 0 1 rfl rfl (wd hw 31 rfl) Via.refl rfl rfl rfl ?_
  refine wp_blk C 4 1 (pc' := 14) (ls' := [.val (.ref sa)]) (st' := [.int 0]) rfl ?_
  exact wp_retN C (z' := 0) 5 rfl (Or.inr (Or.inl rfl)) rfl (by decide) (by decide) (⟨rfl, rfl⟩)
theorem pn6 : plainFor (⟨"java/lang/String", "length", "()I"⟩ : MethodName) = true := by first | (refine plainFor_of_name ?_; simp [plainName, overriddenIn]; done) | (refine plainFor_of_name ?_; decide +kernel) | decide +kernel
theorem pd4 : parseMethodDescriptor "()B" = some ⟨[], (some .byte)⟩ := by decide +kernel
def B_rm_len : Prog := [(0, .aload_n 0, 1), (1, .getfield 9, 3), (4, .arraylength, 1), (5, .aload_n 0, 1), (6, .invokevirtual 335, 3), (9, .ishr, 1), (10, .ireturn, 1)]
theorem B_rm_len_ok : okB jdk_42_method_54_code B_rm_len = true := by decide +kernel
set_option maxRecDepth 65536 in
set_option maxHeartbeats 40000000 in
theorem rm_len (l : Launch) (Z : State) (a0 : Array Value) (hw : ∀ d ∈ tables_1, d.before a0 Z = true) (sa b : Addr) (w : Bool) (u : Bool) (cs : List Int32) (n : Int32) (cz : Int32) (S1 : Sta Z Z.heap "java/lang/String" "COMPACT_STRINGS" "Z" (.int cz)) (hcz : cz ≠ 0) (hn : n.toInt = cs.length) : Ct l Z EL1 nw1 (⟨"java/lang/String", "length", "()I"⟩ : MethodName) jdk_42_method_54_code 1 (some .int) [] ({ frames := 1, cells := 0, slots := 0, locals := 13 } : Room) [.ref sa] [(sa, w, .inl kS, [.ref b, .int 0]), (b, u, .inr .byte, cs.map bt)] (fun v L => v = some (.int n) ∧ L = [(sa, w, .inl kS, [.ref b, .int 0]), (b, u, .inr .byte, cs.map bt)]) := by
  refine ct_of pn6 (B := B_rm_len) (ls := [.val (.ref sa)]) B_rm_len_ok (ew1 hw) (fun m => by first | (simp [entryFrame, mkF, argsToLocals, Value.category]; done) | rfl) (fun K C => ?_)
  refine wp_blk C 0 1 (pc' := 1) (ls' := [.val (.ref sa)]) (st' := [.ref sa]) rfl ?_
  refine wp_get C 1 4 0 0 rfl rfl (wd hw 30 rfl) Via.refl rfl rfl rfl ?_
  refine wp_len C (z := n) 2 5 1 rfl rfl rfl (by rw [List.length_map]; exact len32 hn) ?_
  refine wp_blk C 3 1 (pc' := 6) (ls' := [.val (.ref sa)]) (st' := [.ref sa, .int n]) rfl ?_
  refine wp_virtual C (al := []) (rest := [.int n]) (L1 := [(b, u, .inr .byte, cs.map bt)]) (W := 1) (cells' := 0) (slots' := 0) 4 9 0 (rm_sco l Z a0 hw sa b w cz S1 hcz) rfl rfl rfl (wd hw 88 rfl) (wd hw 89 rfl) (nf_self (wd hw 91 rfl)) (wd hw 91 rfl) (wd hw 90 rfl) (wd hw 92 rfl) (wd hw 12 rfl) (by decide) pd4 rfl rfl rfl rfl (by decide) (by decide) rfl rfl rfl (by decide) (by decide) (fun v L' hQ => ?_)
  obtain ⟨rfl, rfl⟩ := hQ
  show Wp K 0 0 [(sa, w, .inl kS, [.ref b, .int 0]), (b, u, .inr .byte, cs.map bt)] 9 [.val (.ref sa)] [.int 0, .int n]
  refine wp_blk C 5 1 (pc' := 10) (ls' := [.val (.ref sa)]) (st' := [.int (n >>> (0 &&& 31))]) rfl ?_
  exact wp_retI C 6 rfl (by decide) (by decide) (⟨by rw [shr0], rfl⟩)
theorem pn7 : plainFor (⟨"java/lang/Math", "min", "(II)I"⟩ : MethodName) = true := by first | (refine plainFor_of_name ?_; simp [plainName, overriddenIn]; done) | (refine plainFor_of_name ?_; decide +kernel) | decide +kernel
def B_rm_min : Prog := [(0, .iload_n 0, 1), (1, .iload_n 1, 1), (2, .if_icmp .gt 7, 3), (5, .iload_n 0, 1), (6, .goto 4, 3), (9, .iload_n 1, 1), (10, .ireturn, 1)]
theorem B_rm_min_ok : okB jdk_29_method_69_code B_rm_min = true := by decide +kernel
set_option maxRecDepth 65536 in
set_option maxHeartbeats 40000000 in
theorem rm_min (l : Launch) (Z : State) (a0 : Array Value) (hw : ∀ d ∈ tables_1, d.before a0 Z = true) (x z : Int32) : Ct l Z EL1 nw1 (⟨"java/lang/Math", "min", "(II)I"⟩ : MethodName) jdk_29_method_69_code 2 (some .int) [] ({ frames := 0, cells := 0, slots := 0, locals := 0 } : Room) [.int x, .int z] [] (fun v L => v = some (.int (mn x z)) ∧ L = []) := by
  refine ct_of pn7 (B := B_rm_min) (ls := [.val (.int x), .val (.int z)]) B_rm_min_ok (ew1 hw) (fun m => by first | (simp [entryFrame, mkF, argsToLocals, Value.category]; done) | rfl) (fun K C => ?_)
  refine wp_blk C 0 2 (pc' := 2) (ls' := [.val (.int x), .val (.int z)]) (st' := [.int z, .int x]) rfl ?_
  refine wp_icmp C 2 9 5 rfl rfl rfl (by decide) (fun (h : (z : Int32).toInt < (x : Int32).toInt) => ?_) (fun (h : (x : Int32).toInt ≤ (z : Int32).toInt) => ?_)
  · refine wp_blk C 5 1 (pc' := 10) (ls' := [.val (.int x), .val (.int z)]) (st' := [.int z]) rfl ?_
    exact wp_retI C 6 rfl (by decide) (by decide) (⟨by unfold mn; rw [if_neg (by omega)], rfl⟩)
  · refine wp_blk C 3 2 (pc' := 10) (ls' := [.val (.int x), .val (.int z)]) (st' := [.int x]) rfl ?_
    exact wp_retI C 6 rfl (by decide) (by decide) (⟨by unfold mn; rw [if_pos h], rfl⟩)
theorem pn8 : plainFor (⟨"java/util/Arrays", "checkLength", "(II)V"⟩ : MethodName) = true := by first | (refine plainFor_of_name ?_; simp [plainName, overriddenIn]; done) | (refine plainFor_of_name ?_; decide +kernel) | decide +kernel
def B_rm_clen : Prog := [(0, .iload_n 1, 1), (1, .iload_n 0, 1), (2, .if_icmp .ge 35, 3), (37, .return_, 1)]
theorem B_rm_clen_ok : okB jdk_65_method_131_code B_rm_clen = true := by decide +kernel
set_option maxRecDepth 65536 in
set_option maxHeartbeats 40000000 in
theorem rm_clen (l : Launch) (Z : State) (a0 : Array Value) (hw : ∀ d ∈ tables_1, d.before a0 Z = true) (p z : Int32) (h : p.toInt ≤ z.toInt) : Ct l Z EL1 nw1 (⟨"java/util/Arrays", "checkLength", "(II)V"⟩ : MethodName) jdk_65_method_131_code 2 none [] ({ frames := 0, cells := 0, slots := 0, locals := 0 } : Room) [.int p, .int z] [] (fun v L => v = none ∧ L = []) := by
  refine ct_of pn8 (B := B_rm_clen) (ls := [.val (.int p), .val (.int z)]) B_rm_clen_ok (ew1 hw) (fun m => by first | (simp [entryFrame, mkF, argsToLocals, Value.category]; done) | rfl) (fun K C => ?_)
  refine wp_blk C 0 2 (pc' := 2) (ls' := [.val (.int p), .val (.int z)]) (st' := [.int p, .int z]) rfl ?_
  refine wp_icmp C 2 37 5 rfl rfl rfl (by decide) (fun _ => ?_) (fun h => absurd h (fun q : z.toInt < p.toInt => by omega))
  exact wp_ret0 C 3 rfl (by decide) (by decide) (⟨rfl, rfl⟩)
theorem pn9 : plainFor (⟨"java/util/Arrays", "copyOfRangeByte", "([BII)[B"⟩ : MethodName) = true := by first | (refine plainFor_of_name ?_; simp [plainName, overriddenIn]; done) | (refine plainFor_of_name ?_; decide +kernel) | decide +kernel
theorem pd5 : parseMethodDescriptor "(II)V" = some ⟨[.int, .int], none⟩ := by decide +kernel
theorem pd6 : parseMethodDescriptor "(II)I" = some ⟨[.int, .int], (some .int)⟩ := by decide +kernel
def B_rm_corb : Prog := [(0, .iload_n 1, 1), (1, .iload_n 2, 1), (2, .invokestatic 343, 3), (5, .iload_n 2, 1), (6, .iload_n 1, 1), (7, .isub, 1), (8, .istore_n 3, 1), (9, .iload_n 3, 1), (10, .newarray .byte, 2), (12, .astore 4, 2), (14, .aload_n 0, 1), (15, .iload_n 1, 1), (16, .aload 4, 2), (18, .iconst 0, 1), (19, .aload_n 0, 1), (20, .arraylength, 1), (21, .iload_n 1, 1), (22, .isub, 1), (23, .iload_n 3, 1), (24, .invokestatic 304, 3), (27, .invokestatic 150, 3), (30, .aload 4, 2), (32, .areturn, 1)]
theorem B_rm_corb_ok : okB jdk_65_method_133_code B_rm_corb = true := by decide +kernel
set_option maxRecDepth 65536 in
set_option maxHeartbeats 40000000 in
theorem rm_corb (l : Launch) (Z : State) (a0 : Array Value) (hw : ∀ d ∈ tables_1, d.before a0 Z = true) (b : Addr) (cs : List Int32) (p z : Int32) (s k : Nat) (hp : p.toInt = s) (hz : z.toInt = (s + k : Nat)) (hl : s + k ≤ cs.length) (hcap : cs.length ≤ 16) : Ct l Z EL1 nw1 (⟨"java/util/Arrays", "copyOfRangeByte", "([BII)[B"⟩ : MethodName) jdk_65_method_133_code 5 (some (.array .byte)) [] ({ frames := 1, cells := 1, slots := 16, locals := 18 } : Room) [.ref b, .int p, .int z] [(b, true, .inr .byte, cs.map bt)] (fun v L => ∃ rb : Addr, v = some (.ref rb) ∧ L = [(rb, true, .inr .byte, ((cs.drop s).take k).map bt), (b, true, .inr .byte, cs.map bt)]) := by
  refine ct_of pn9 (B := B_rm_corb) (ls := [.val (.ref b), .val (.int p), .val (.int z), .unset, .unset]) B_rm_corb_ok (ew1 hw) (fun m => by first | (simp [entryFrame, mkF, argsToLocals, Value.category]; done) | rfl) (fun K C => ?_)
  obtain ⟨n, hnn⟩ : ∃ n : Int32, cs.length.toInt32 = n := ⟨_, rfl⟩
  have hn : n.toInt = cs.length := by rw [← hnn]; exact len_toInt (by omega)
  refine wp_blk C 0 2 (pc' := 2) (ls' := [.val (.ref b), .val (.int p), .val (.int z), .unset, .unset]) (st' := [.int z, .int p]) rfl ?_
  refine wp_static C (al := [.int p, .int z]) (rest := []) (L1 := [(b, true, .inr .byte, cs.map bt)]) (W := 0) (cells' := 0) (slots' := 0) 2 5 (rm_clen l Z a0 hw p z (by omega)) rfl rfl (wd hw 159 rfl) (wd hw 160 rfl) (wd hw 161 rfl) (wd hw 154 rfl) (by decide) pd5 rfl rfl rfl rfl (by decide) (by decide) rfl rfl rfl (by decide) (by decide) (fun v L' hQ => ?_)
  obtain ⟨rfl, rfl⟩ := hQ
  show Wp K 0 0 [(b, true, .inr .byte, cs.map bt)] 5 [.val (.ref b), .val (.int p), .val (.int z), .unset, .unset] []
  refine wp_blk C 3 4 (pc' := 9) (ls' := [.val (.ref b), .val (.int p), .val (.int z), .val (.int (z - p)), .unset]) (st' := []) rfl ?_
  obtain ⟨m, hm⟩ : ∃ nn0 : Int32, nn0 = z - p := ⟨_, rfl⟩
  rw [← hm]
  have Hm : m.toInt = k := by rw [hm, subI hz hp]; omega
  refine wp_blk C 7 1 (pc' := 10) (ls' := [.val (.ref b), .val (.int p), .val (.int z), .val (.int m), .unset]) (st' := [.int m]) rfl ?_
  refine wp_newA C (n := k) (cap := 16) (cells' := 1) (slots' := 16) (vs := List.replicate k (.int 0)) 8 12 rfl rfl (wd hw 25 rfl) Hm (by omega) (by decide) rfl rfl (by decide) (by decide) rfl (fun rb => ?_)
  refine wp_blk C 9 6 (pc' := 20) (ls' := [.val (.ref b), .val (.int p), .val (.int z), .val (.int m), .val (.ref rb)]) (st' := [.ref b, .int 0, .ref rb, .int p, .ref b]) rfl ?_
  refine wp_len C (z := n) 15 21 1 rfl rfl rfl (by rw [List.length_map]; exact hnn) ?_
  refine wp_blk C 16 2 (pc' := 23) (ls' := [.val (.ref b), .val (.int p), .val (.int z), .val (.int m), .val (.ref rb)]) (st' := [.int (n - p), .int 0, .ref rb, .int p, .ref b]) rfl ?_
  obtain ⟨r, hr⟩ : ∃ nn0 : Int32, nn0 = n - p := ⟨_, rfl⟩
  rw [← hr]
  have Hr : r.toInt = (cs.length - s : Nat) := by rw [hr, subI hn hp]; omega
  refine wp_blk C 18 1 (pc' := 24) (ls' := [.val (.ref b), .val (.int p), .val (.int z), .val (.int m), .val (.ref rb)]) (st' := [.int m, .int r, .int 0, .ref rb, .int p, .ref b]) rfl ?_
  refine wp_static C (al := [.int r, .int m]) (rest := [.int 0, .ref rb, .int p, .ref b]) (L1 := [(rb, true, .inr .byte, List.replicate k (.int 0)), (b, true, .inr .byte, cs.map bt)]) (W := 4) (cells' := 1) (slots' := 16) 19 27 (rm_min l Z a0 hw r m) rfl rfl (wd hw 162 rfl) (wd hw 163 rfl) (wd hw 165 rfl) (wd hw 164 rfl) (by decide) pd6 rfl rfl rfl rfl (by decide) (by decide) rfl rfl rfl (by decide) (by decide) (fun v L' hQ => ?_)
  obtain ⟨rfl, rfl⟩ := hQ
  show Wp K 1 16 [(rb, true, .inr .byte, List.replicate k (.int 0)), (b, true, .inr .byte, cs.map bt)] 27 [.val (.ref b), .val (.int p), .val (.int z), .val (.int m), .val (.ref rb)] [.int (mn r m), .int 0, .ref rb, .int p, .ref b]
  rw [mn_right (x := r) (z := m) (by omega)]
  refine wp_copy C (ns := s) (nd := 0) (n := k) (vd' := ((cs.drop s).take k).map bt) (L' := [(rb, true, .inr .byte, ((cs.drop s).take k).map bt), (b, true, .inr .byte, cs.map bt)]) (W := 0) 20 30 1 0 rfl rfl (wd hw 166 rfl) (wd hw 120 rfl) (wd hw 118 rfl) (wd hw 119 rfl) rfl rfl rfl hp rfl Hm (by rw [List.length_map]; exact hl) (by simp) slice_bt rfl (by decide) rfl (by decide +kernel) rfl ?_
  refine wp_blk C 21 1 (pc' := 32) (ls' := [.val (.ref b), .val (.int p), .val (.int z), .val (.int m), .val (.ref rb)]) (st' := [.ref rb]) rfl ?_
  exact wp_retA C 22 rfl rfl rfl (by decide) (by decide) (⟨rb, rfl, rfl⟩)
theorem pn10 : plainFor (⟨"java/util/Arrays", "copyOfRange", "([BII)[B"⟩ : MethodName) = true := by first | (refine plainFor_of_name ?_; simp [plainName, overriddenIn]; done) | (refine plainFor_of_name ?_; decide +kernel) | decide +kernel
theorem pd7 : parseMethodDescriptor "([BII)[B" = some ⟨[(.array .byte), .int, .int], (some (.array .byte))⟩ := by decide +kernel
def B_rm_cor : Prog := [(0, .iload_n 1, 1), (1, .ifCond .ne 9, 3), (4, .iload_n 2, 1), (5, .aload_n 0, 1), (6, .arraylength, 1), (7, .if_icmp .eq 10, 3), (10, .aload_n 0, 1), (11, .iload_n 1, 1), (12, .iload_n 2, 1), (13, .invokestatic 339, 3), (16, .areturn, 1)]
theorem B_rm_cor_ok : okB jdk_65_method_132_code B_rm_cor = true := by decide +kernel
set_option maxRecDepth 65536 in
set_option maxHeartbeats 40000000 in
theorem rm_cor (l : Launch) (Z : State) (a0 : Array Value) (hw : ∀ d ∈ tables_1, d.before a0 Z = true) (b : Addr) (cs : List Int32) (p z : Int32) (s k : Nat) (hp : p.toInt = s) (hz : z.toInt = (s + k : Nat)) (hl : s + k ≤ cs.length) (hcap : cs.length ≤ 16) (hno : s ≠ 0 ∨ s + k ≠ cs.length) : Ct l Z EL1 nw1 (⟨"java/util/Arrays", "copyOfRange", "([BII)[B"⟩ : MethodName) jdk_65_method_132_code 3 (some (.array .byte)) [] ({ frames := 2, cells := 1, slots := 16, locals := 34 } : Room) [.ref b, .int p, .int z] [(b, true, .inr .byte, cs.map bt)] (fun v L => ∃ rb : Addr, v = some (.ref rb) ∧ L = [(rb, true, .inr .byte, ((cs.drop s).take k).map bt), (b, true, .inr .byte, cs.map bt)]) := by
  refine ct_of pn10 (B := B_rm_cor) (ls := [.val (.ref b), .val (.int p), .val (.int z)]) B_rm_cor_ok (ew1 hw) (fun m => by first | (simp [entryFrame, mkF, argsToLocals, Value.category]; done) | rfl) (fun K C => ?_)
  obtain ⟨n, hnn⟩ : ∃ n : Int32, cs.length.toInt32 = n := ⟨_, rfl⟩
  have hn : n.toInt = cs.length := by rw [← hnn]; exact len_toInt (by omega)
  have J10 : Wp K 0 0 [(b, true, .inr .byte, cs.map bt)] 10 [.val (.ref b), .val (.int p), .val (.int z)] [] := by
    refine wp_blk C 6 3 (pc' := 13) (ls' := [.val (.ref b), .val (.int p), .val (.int z)]) (st' := [.int z, .int p, .ref b]) rfl ?_
    refine wp_static C (al := [.ref b, .int p, .int z]) (rest := []) (L1 := []) (W := 0) (cells' := 1) (slots' := 16) 9 16 (rm_corb l Z a0 hw b cs p z s k hp hz hl hcap) rfl rfl (wd hw 156 rfl) (wd hw 157 rfl) (wd hw 158 rfl) (wd hw 154 rfl) (by decide) pd7 rfl rfl rfl rfl (by decide) (by decide) rfl rfl rfl (by decide) (by decide) (fun v L' hQ => ?_)
    obtain ⟨rb, rfl, rfl⟩ := hQ
    show Wp K 1 16 [(rb, true, .inr .byte, ((cs.drop s).take k).map bt), (b, true, .inr .byte, cs.map bt)] 16 [.val (.ref b), .val (.int p), .val (.int z)] [.ref rb]
    exact wp_retA C 10 rfl rfl rfl (by decide) (by decide) (⟨rb, rfl, rfl⟩)
  refine wp_blk C 0 1 (pc' := 1) (ls' := [.val (.ref b), .val (.int p), .val (.int z)]) (st' := [.int p]) rfl ?_
  refine wp_ifz C 1 10 4 rfl rfl rfl (by decide) (fun (h1 : (p : Int32) ≠ 0) => ?_) (fun (h1 : (p : Int32) = 0) => ?_)
  · exact J10
  · refine wp_blk C 2 2 (pc' := 6) (ls' := [.val (.ref b), .val (.int p), .val (.int z)]) (st' := [.ref b, .int z]) rfl ?_
    refine wp_len C (z := n) 4 7 0 rfl rfl rfl (by rw [List.length_map]; exact hnn) ?_
    refine wp_icmp C 5 17 10 rfl rfl rfl (by decide) (fun h => absurd h (fun q : z = n => by rw [h1, zero32] at hp; rw [q] at hz; omega)) (fun _ => ?_)
    exact J10
def sbv (cs : List Int32) : List Int32 := cs ++ List.replicate (16 - cs.length) 0
theorem sbv_len {cs : List Int32} (h : cs.length ≤ 16) : (sbv cs).length = 16 := by unfold sbv; simp; omega
theorem sbv_take {cs : List Int32} : ((sbv cs).drop 0).take cs.length = cs := by unfold sbv; simp
theorem sbv_nil : List.replicate 16 (Value.int 0) = (sbv []).map bt := rfl
theorem sbv_put {cs ds : List Int32} (h : cs.length + ds.length ≤ 16) : ((sbv cs).map bt).take cs.length ++ ((ds.map bt).drop 0).take ds.length ++ ((sbv cs).map bt).drop (cs.length + ds.length) = (sbv (cs ++ ds)).map bt := by
  unfold sbv
  simp only [List.map_append, List.map_replicate, List.drop_zero, List.length_append]
  rw [List.take_left' (by simp), List.take_of_length_le (by simp), List.drop_append, List.drop_eq_nil_of_le (by simp)]
  simp only [List.nil_append, List.drop_replicate, List.length_map]
  rw [show 16 - cs.length - (cs.length + ds.length - cs.length) = 16 - (cs.length + ds.length) by omega]
theorem shl0 (n : Int32) : n <<< ((0 : Int32) &&& 31) = n := by
  rw [show ((0 : Int32) &&& 31) = 0 from rfl]; simp
theorem nar_ite {P : Prop} [Decidable P] : nar .boolean (if P then 1 else 0) = (if P then 1 else 0 : Int32) := by split <;> rfl
def kSB : Kd := ("java/lang/StringBuilder", [("java/lang/AbstractStringBuilder", "value", "[B"), ("java/lang/AbstractStringBuilder", "coder", "B"), ("java/lang/AbstractStringBuilder", "count", "I")])
theorem kSB_ok {Z : State} {a0 : Array Value} (hw : ∀ d ∈ tables_1, d.before a0 Z = true) : KOk Z a0 kSB := ⟨⟨⟨Or.inl (wd hw 70 rfl), by decide +kernel⟩, ⟨⟨Or.inl (wd hw 72 rfl), by decide +kernel⟩, ⟨⟨Or.inl (wd hw 95 rfl), by decide +kernel⟩, trivial⟩⟩⟩, by decide +kernel⟩
theorem kSB_df : defs kSB = [.null, .int 0, .int 0] := by decide +kernel
theorem pn11 : plainFor (⟨"java/lang/AbstractStringBuilder", "<init>", "(I)V"⟩ : MethodName) = true := by first | (refine plainFor_of_name ?_; simp [plainName, overriddenIn]; done) | (refine plainFor_of_name ?_; decide +kernel) | decide +kernel
def B_rm_asbi : Prog := [(0, .aload_n 0, 1), (1, .invokespecial 3, 3), (4, .getstatic 18, 3), (7, .ifCond .eq 18, 3), (10, .aload_n 0, 1), (11, .iload_n 1, 1), (12, .newarray .byte, 2), (14, .putfield 15, 3), (17, .aload_n 0, 1), (18, .iconst 0, 1), (19, .putfield 22, 3), (22, .goto 16, 3), (38, .return_, 1)]
theorem B_rm_asbi_ok : okB jdk_68_method_2_code B_rm_asbi = true := by decide +kernel
set_option maxRecDepth 65536 in
set_option maxHeartbeats 40000000 in
theorem rm_asbi (l : Launch) (Z : State) (a0 : Array Value) (hw : ∀ d ∈ tables_1, d.before a0 Z = true) (ba : Addr) (cz : Int32) (S1 : Sta Z Z.heap "java/lang/String" "COMPACT_STRINGS" "Z" (.int cz)) (hcz : cz ≠ 0) : Ct l Z EL1 nw1 (⟨"java/lang/AbstractStringBuilder", "<init>", "(I)V"⟩ : MethodName) jdk_68_method_2_code 2 none [] ({ frames := 1, cells := 1, slots := 16, locals := 12 } : Room) [.ref ba, .int 16] [(ba, true, .inl kSB, [.null, .int 0, .int 0])] (fun v L => v = none ∧ ∃ vb : Addr, L = [(ba, true, .inl kSB, [.ref vb, .int 0, .int 0]), (vb, true, .inr .byte, (sbv ([])).map bt)]) := by
  refine ct_of pn11 (B := B_rm_asbi) (ls := [.val (.ref ba), .val (.int 16)]) B_rm_asbi_ok (ew1 hw) (fun m => by first | (simp [entryFrame, mkF, argsToLocals, Value.category]; done) | rfl) (fun K C => ?_)
  refine wp_blk C 0 1 (pc' := 1) (ls' := [.val (.ref ba), .val (.int 16)]) (st' := [.ref ba]) rfl ?_
  refine wp_initO C (W := 0) 1 4 rfl rfl (wd hw 67 rfl) (wd hw 22 rfl) (wd hw 23 rfl) (by decide) rfl (by decide) rfl ?_
  refine wp_getS C 2 7 rfl rfl (wd hw 68 rfl) Via.refl S1 ?_
  refine wp_ifz C 3 25 10 rfl rfl rfl (by decide) (fun h => absurd h (hcz)) (fun _ => ?_)
  refine wp_blk C 4 2 (pc' := 12) (ls' := [.val (.ref ba), .val (.int 16)]) (st' := [.int 16, .ref ba]) rfl ?_
  refine wp_newA C (n := 16) (cap := 16) (cells' := 1) (slots' := 16) (vs := List.replicate 16 (.int 0)) 6 14 rfl rfl (wd hw 25 rfl) rfl (by decide) (by decide) rfl rfl (by decide) (by decide) rfl (fun vb => ?_)
  rw [sbv_nil]
  refine wp_put C (ty := (.array .byte)) (v := .ref vb) (vs' := [.ref vb, .int 0, .int 0]) (L' := [(vb, true, .inr .byte, (sbv []).map bt), (ba, true, .inl kSB, [.ref vb, .int 0, .int 0])]) 7 17 1 0 rfl rfl (wd hw 69 rfl) Via.refl (Or.inl (wd hw 70 rfl)) (wd hw 56 rfl) (kSB_ok hw) fd1 rfl rfl rfl rfl rfl rfl rfl ?_
  refine wp_blk C 8 2 (pc' := 19) (ls' := [.val (.ref ba), .val (.int 16)]) (st' := [.int 0, .ref ba]) rfl ?_
  refine wp_put C (ty := .byte) (v := .int 0) (vs' := [.ref vb, .int 0, .int 0]) (L' := [(vb, true, .inr .byte, (sbv []).map bt), (ba, true, .inl kSB, [.ref vb, .int 0, .int 0])]) 10 22 1 1 rfl rfl (wd hw 71 rfl) Via.refl (Or.inl (wd hw 72 rfl)) (wd hw 56 rfl) (kSB_ok hw) fd0 rfl rfl rfl rfl rfl rfl rfl ?_
  refine wp_blk C 11 1 (pc' := 38) (ls' := [.val (.ref ba), .val (.int 16)]) (st' := []) rfl ?_
  refine wp_front C 1 (L' := [(ba, true, .inl kSB, [.ref vb, .int 0, .int 0]), (vb, true, .inr .byte, (sbv []).map bt)]) rfl ?_
  exact wp_ret0 C 12 rfl (by decide) (by decide) (⟨rfl, vb, rfl⟩)
theorem pn12 : plainFor (⟨"java/lang/StringBuilder", "<init>", "()V"⟩ : MethodName) = true := by first | (refine plainFor_of_name ?_; simp [plainName, overriddenIn]; done) | (refine plainFor_of_name ?_; decide +kernel) | decide +kernel
theorem pd8 : parseMethodDescriptor "(I)V" = some ⟨[.int], none⟩ := by decide +kernel
def B_rm_sbi : Prog := [(0, .aload_n 0, 1), (1, .bipush 16, 2), (3, .invokespecial 1, 3), (6, .return_, 1)]
theorem B_rm_sbi_ok : okB jdk_67_method_1_code B_rm_sbi = true := by decide +kernel
set_option maxRecDepth 65536 in
set_option maxHeartbeats 40000000 in
theorem rm_sbi (l : Launch) (Z : State) (a0 : Array Value) (hw : ∀ d ∈ tables_1, d.before a0 Z = true) (ba : Addr) (cz : Int32) (S1 : Sta Z Z.heap "java/lang/String" "COMPACT_STRINGS" "Z" (.int cz)) (hcz : cz ≠ 0) : Ct l Z EL1 nw1 (⟨"java/lang/StringBuilder", "<init>", "()V"⟩ : MethodName) jdk_67_method_1_code 1 none [] ({ frames := 2, cells := 1, slots := 16, locals := 25 } : Room) [.ref ba] [(ba, true, .inl kSB, [.null, .int 0, .int 0])] (fun v L => v = none ∧ ∃ vb : Addr, L = [(ba, true, .inl kSB, [.ref vb, .int 0, .int 0]), (vb, true, .inr .byte, (sbv ([])).map bt)]) := by
  refine ct_of pn12 (B := B_rm_sbi) (ls := [.val (.ref ba)]) B_rm_sbi_ok (ew1 hw) (fun m => by first | (simp [entryFrame, mkF, argsToLocals, Value.category]; done) | rfl) (fun K C => ?_)
  refine wp_blk C 0 2 (pc' := 3) (ls' := [.val (.ref ba)]) (st' := [.int 16, .ref ba]) rfl ?_
  refine wp_init C (al := [.int 16]) (rest := []) (L1 := []) (W := 0) (cells' := 1) (slots' := 16) 2 6 (rm_asbi l Z a0 hw ba cz S1 hcz) rfl rfl (wd hw 61 rfl) (wd hw 62 rfl) (wd hw 66 rfl) (wd hw 65 rfl) rfl (by decide) pd8 rfl rfl rfl rfl (by decide) (by decide) rfl rfl rfl (by decide) (by decide) (fun v L' hQ => ?_)
  obtain ⟨rfl, vb, rfl⟩ := hQ
  show Wp K 1 16 [(ba, true, .inl kSB, [.ref vb, .int 0, .int 0]), (vb, true, .inr .byte, (sbv ([])).map bt)] 6 [.val (.ref ba)] []
  exact wp_ret0 C 3 rfl (by decide) (by decide) (⟨rfl, vb, rfl⟩)
theorem pn13 : plainFor (⟨"java/lang/AbstractStringBuilder", "ensureCapacityInternal", "(I)V"⟩ : MethodName) = true := by first | (refine plainFor_of_name ?_; simp [plainName, overriddenIn]; done) | (refine plainFor_of_name ?_; decide +kernel) | decide +kernel
def B_rm_ens : Prog := [(0, .aload_n 0, 1), (1, .getfield 15, 3), (4, .arraylength, 1), (5, .aload_n 0, 1), (6, .getfield 22, 3), (9, .ishr, 1), (10, .istore_n 2, 1), (11, .iload_n 1, 1), (12, .iload_n 2, 1), (13, .isub, 1), (14, .ifCond .le 24, 3), (38, .return_, 1)]
theorem B_rm_ens_ok : okB jdk_68_method_9_code B_rm_ens = true := by decide +kernel
set_option maxRecDepth 65536 in
set_option maxHeartbeats 40000000 in
theorem rm_ens (l : Launch) (Z : State) (a0 : Array Value) (hw : ∀ d ∈ tables_1, d.before a0 Z = true) (ba vb : Addr) (cs : List Int32) (cn m : Int32) (a : Nat) (hcs : cs.length ≤ 16) (hm : m.toInt = a) (ha : a ≤ 16) : Ct l Z EL1 nw1 (⟨"java/lang/AbstractStringBuilder", "ensureCapacityInternal", "(I)V"⟩ : MethodName) jdk_68_method_9_code 3 none [] ({ frames := 0, cells := 0, slots := 0, locals := 0 } : Room) [.ref ba, .int m] [(ba, true, .inl kSB, [.ref vb, .int 0, .int cn]), (vb, true, .inr .byte, (sbv cs).map bt)] (fun v L => v = none ∧ L = [(ba, true, .inl kSB, [.ref vb, .int 0, .int cn]), (vb, true, .inr .byte, (sbv cs).map bt)]) := by
  refine ct_of pn13 (B := B_rm_ens) (ls := [.val (.ref ba), .val (.int m), .unset]) B_rm_ens_ok (ew1 hw) (fun m => by first | (simp [entryFrame, mkF, argsToLocals, Value.category]; done) | rfl) (fun K C => ?_)
  refine wp_blk C 0 1 (pc' := 1) (ls' := [.val (.ref ba), .val (.int m), .unset]) (st' := [.ref ba]) rfl ?_
  refine wp_get C 1 4 0 0 rfl rfl (wd hw 69 rfl) Via.refl rfl rfl rfl ?_
  obtain ⟨n, hn⟩ : ∃ n : Int32, n = 16 := ⟨_, rfl⟩
  have hn16 : n.toInt = 16 := by rw [hn]; rfl
  refine wp_len C (z := n) 2 5 1 rfl rfl rfl (by rw [List.length_map, sbv_len hcs, hn]; rfl) ?_
  refine wp_blk C 3 1 (pc' := 6) (ls' := [.val (.ref ba), .val (.int m), .unset]) (st' := [.ref ba, .int n]) rfl ?_
  refine wp_get C 4 9 0 1 rfl rfl (wd hw 71 rfl) Via.refl rfl rfl rfl ?_
  refine wp_blk C 5 2 (pc' := 11) (ls' := [.val (.ref ba), .val (.int m), .val (.int (n >>> (0 &&& 31)))]) (st' := []) rfl ?_
  rw [shr0]
  refine wp_blk C 7 3 (pc' := 14) (ls' := [.val (.ref ba), .val (.int m), .val (.int n)]) (st' := [.int (m - n)]) rfl ?_
  obtain ⟨d, hd⟩ : ∃ nn0 : Int32, nn0 = m - n := ⟨_, rfl⟩
  rw [← hd]
  have Hd : d.toInt = a - 16 := by rw [hd]; exact subI hm hn16
  refine wp_ifz C 10 38 17 rfl rfl rfl (by decide) (fun _ => ?_) (fun h => absurd h (fun q : (0 : Int32).toInt < d.toInt => by rw [zero32] at q; omega))
  exact wp_ret0 C 11 rfl (by decide) (by decide) (⟨rfl, rfl⟩)
theorem pn14 : plainFor (⟨"java/lang/AbstractStringBuilder", "inflateIfNeededFor", "(Ljava/lang/String;)V"⟩ : MethodName) = true := by first | (refine plainFor_of_name ?_; simp [plainName, overriddenIn]; done) | (refine plainFor_of_name ?_; decide +kernel) | decide +kernel
def B_rm_inf : Prog := [(0, .getstatic 18, 3), (3, .ifCond .eq 18, 3), (6, .aload_n 0, 1), (7, .getfield 22, 3), (10, .aload_n 1, 1), (11, .invokevirtual 40, 3), (14, .if_icmp .eq 7, 3), (21, .return_, 1)]
theorem B_rm_inf_ok : okB jdk_68_method_71_code B_rm_inf = true := by decide +kernel
set_option maxRecDepth 65536 in
set_option maxHeartbeats 40000000 in
theorem rm_inf (l : Launch) (Z : State) (a0 : Array Value) (hw : ∀ d ∈ tables_1, d.before a0 Z = true) (ba vb sa b : Addr) (w : Bool) (cn : Int32) (cz : Int32) (S1 : Sta Z Z.heap "java/lang/String" "COMPACT_STRINGS" "Z" (.int cz)) (hcz : cz ≠ 0) : Ct l Z EL1 nw1 (⟨"java/lang/AbstractStringBuilder", "inflateIfNeededFor", "(Ljava/lang/String;)V"⟩ : MethodName) jdk_68_method_71_code 2 none [] ({ frames := 1, cells := 0, slots := 0, locals := 13 } : Room) [.ref ba, .ref sa] [(ba, true, .inl kSB, [.ref vb, .int 0, .int cn]), (sa, w, .inl kS, [.ref b, .int 0])] (fun v L => v = none ∧ L = [(ba, true, .inl kSB, [.ref vb, .int 0, .int cn]), (sa, w, .inl kS, [.ref b, .int 0])]) := by
  refine ct_of pn14 (B := B_rm_inf) (ls := [.val (.ref ba), .val (.ref sa)]) B_rm_inf_ok (ew1 hw) (fun m => by first | (simp [entryFrame, mkF, argsToLocals, Value.category]; done) | rfl) (fun K C => ?_)
  refine wp_getS C 0 3 rfl rfl (wd hw 68 rfl) Via.refl S1 ?_
  refine wp_ifz C 1 21 6 rfl rfl rfl (by decide) (fun h => absurd h (hcz)) (fun _ => ?_)
  refine wp_blk C 2 1 (pc' := 7) (ls' := [.val (.ref ba), .val (.ref sa)]) (st' := [.ref ba]) rfl ?_
  refine wp_get C 3 10 0 1 rfl rfl (wd hw 71 rfl) Via.refl rfl rfl rfl ?_
  refine wp_blk C 4 1 (pc' := 11) (ls' := [.val (.ref ba), .val (.ref sa)]) (st' := [.ref sa, .int 0]) rfl ?_
  refine wp_front C 1 (L' := [(sa, w, .inl kS, [.ref b, .int 0]), (ba, true, .inl kSB, [.ref vb, .int 0, .int cn])]) rfl ?_
  refine wp_virtual C (al := []) (rest := [.int 0]) (L1 := [(ba, true, .inl kSB, [.ref vb, .int 0, .int cn])]) (W := 1) (cells' := 0) (slots' := 0) 5 14 0 (rm_sco l Z a0 hw sa b w cz S1 hcz) rfl rfl rfl (wd hw 111 rfl) (wd hw 89 rfl) (nf_self (wd hw 91 rfl)) (wd hw 91 rfl) (wd hw 90 rfl) (wd hw 92 rfl) (wd hw 12 rfl) (by decide) pd4 rfl rfl rfl rfl (by decide) (by decide) rfl rfl rfl (by decide) (by decide) (fun v L' hQ => ?_)
  obtain ⟨rfl, rfl⟩ := hQ
  show Wp K 0 0 [(sa, w, .inl kS, [.ref b, .int 0]), (ba, true, .inl kSB, [.ref vb, .int 0, .int cn])] 14 [.val (.ref ba), .val (.ref sa)] [.int 0, .int 0]
  refine wp_icmp C 6 21 17 rfl rfl rfl (by decide) (fun _ => ?_) (fun h => absurd h (fun q : (0 : Int32) ≠ 0 => absurd q (by decide)))
  refine wp_front C 1 (L' := [(ba, true, .inl kSB, [.ref vb, .int 0, .int cn]), (sa, w, .inl kS, [.ref b, .int 0])]) rfl ?_
  exact wp_ret0 C 7 rfl (by decide) (by decide) (⟨rfl, rfl⟩)
theorem pn15 : plainFor (⟨"java/lang/String", "getBytes", "([BIB)V"⟩ : MethodName) = true := by first | (refine plainFor_of_name ?_; simp [plainName, overriddenIn]; done) | (refine plainFor_of_name ?_; decide +kernel) | decide +kernel
def B_rm_gby : Prog := [(0, .aload_n 0, 1), (1, .invokevirtual 335, 3), (4, .iload_n 3, 1), (5, .if_icmp .ne 23, 3), (8, .aload_n 0, 1), (9, .getfield 9, 3), (12, .iconst 0, 1), (13, .aload_n 1, 1), (14, .iload_n 2, 1), (15, .iload_n 3, 1), (16, .ishl, 1), (17, .aload_n 0, 1), (18, .getfield 9, 3), (21, .arraylength, 1), (22, .invokestatic 212, 3), (25, .goto 18, 3), (43, .return_, 1)]
theorem B_rm_gby_ok : okB jdk_42_method_147_code B_rm_gby = true := by decide +kernel
set_option maxRecDepth 65536 in
set_option maxHeartbeats 40000000 in
theorem rm_gby (l : Launch) (Z : State) (a0 : Array Value) (hw : ∀ d ∈ tables_1, d.before a0 Z = true) (sa b vb : Addr) (w u : Bool) (cs ds : List Int32) (p n : Int32) (cz : Int32) (S1 : Sta Z Z.heap "java/lang/String" "COMPACT_STRINGS" "Z" (.int cz)) (hcz : cz ≠ 0) (hp : p.toInt = cs.length) (hn : n.toInt = ds.length) (h16 : cs.length + ds.length ≤ 16) : Ct l Z EL1 nw1 (⟨"java/lang/String", "getBytes", "([BIB)V"⟩ : MethodName) jdk_42_method_147_code 4 none [] ({ frames := 1, cells := 0, slots := 0, locals := 18 } : Room) [.ref sa, .ref vb, .int p, .int 0] [(sa, w, .inl kS, [.ref b, .int 0]), (b, u, .inr .byte, ds.map bt), (vb, true, .inr .byte, (sbv cs).map bt)] (fun v L => v = none ∧ L = [(sa, w, .inl kS, [.ref b, .int 0]), (b, u, .inr .byte, ds.map bt), (vb, true, .inr .byte, (sbv (cs ++ ds)).map bt)]) := by
  refine ct_of pn15 (B := B_rm_gby) (ls := [.val (.ref sa), .val (.ref vb), .val (.int p), .val (.int 0)]) B_rm_gby_ok (ew1 hw) (fun m => by first | (simp [entryFrame, mkF, argsToLocals, Value.category]; done) | rfl) (fun K C => ?_)
  refine wp_blk C 0 1 (pc' := 1) (ls' := [.val (.ref sa), .val (.ref vb), .val (.int p), .val (.int 0)]) (st' := [.ref sa]) rfl ?_
  refine wp_virtual C (al := []) (rest := []) (L1 := [(b, u, .inr .byte, ds.map bt), (vb, true, .inr .byte, (sbv cs).map bt)]) (W := 0) (cells' := 0) (slots' := 0) 1 4 0 (rm_sco l Z a0 hw sa b w cz S1 hcz) rfl rfl rfl (wd hw 88 rfl) (wd hw 89 rfl) (nf_self (wd hw 91 rfl)) (wd hw 91 rfl) (wd hw 90 rfl) (wd hw 92 rfl) (wd hw 12 rfl) (by decide) pd4 rfl rfl rfl rfl (by decide) (by decide) rfl rfl rfl (by decide) (by decide) (fun v L' hQ => ?_)
  obtain ⟨rfl, rfl⟩ := hQ
  show Wp K 0 0 [(sa, w, .inl kS, [.ref b, .int 0]), (b, u, .inr .byte, ds.map bt), (vb, true, .inr .byte, (sbv cs).map bt)] 4 [.val (.ref sa), .val (.ref vb), .val (.int p), .val (.int 0)] [.int 0]
  refine wp_blk C 2 1 (pc' := 5) (ls' := [.val (.ref sa), .val (.ref vb), .val (.int p), .val (.int 0)]) (st' := [.int 0, .int 0]) rfl ?_
  refine wp_icmp C 3 28 8 rfl rfl rfl (by decide) (fun h => absurd h (fun q : (0 : Int32) ≠ 0 => absurd q (by decide))) (fun _ => ?_)
  refine wp_blk C 4 1 (pc' := 9) (ls' := [.val (.ref sa), .val (.ref vb), .val (.int p), .val (.int 0)]) (st' := [.ref sa]) rfl ?_
  refine wp_get C 5 12 0 0 rfl rfl (wd hw 30 rfl) Via.refl rfl rfl rfl ?_
  refine wp_blk C 6 5 (pc' := 17) (ls' := [.val (.ref sa), .val (.ref vb), .val (.int p), .val (.int 0)]) (st' := [.int (p <<< (0 &&& 31)), .ref vb, .int 0, .ref b]) rfl ?_
  rw [shl0]
  refine wp_blk C 11 1 (pc' := 18) (ls' := [.val (.ref sa), .val (.ref vb), .val (.int p), .val (.int 0)]) (st' := [.ref sa, .int p, .ref vb, .int 0, .ref b]) rfl ?_
  refine wp_get C 12 21 0 0 rfl rfl (wd hw 30 rfl) Via.refl rfl rfl rfl ?_
  refine wp_len C (z := n) 13 22 1 rfl rfl rfl (by rw [List.length_map]; exact len32 hn) ?_
  refine wp_copy C (ns := 0) (nd := cs.length) (n := ds.length) (vd' := (sbv (cs ++ ds)).map bt) (L' := [(sa, w, .inl kS, [.ref b, .int 0]), (b, u, .inr .byte, ds.map bt), (vb, true, .inr .byte, (sbv (cs ++ ds)).map bt)]) (W := 0) 14 25 1 2 rfl rfl (wd hw 117 rfl) (wd hw 120 rfl) (wd hw 118 rfl) (wd hw 119 rfl) rfl rfl rfl rfl hp hn (by rw [List.length_map]; omega) (by rw [List.length_map, sbv_len (by omega)]; exact h16) (sbv_put h16) rfl (by decide) rfl (by decide +kernel) rfl ?_
  refine wp_blk C 15 1 (pc' := 43) (ls' := [.val (.ref sa), .val (.ref vb), .val (.int p), .val (.int 0)]) (st' := []) rfl ?_
  exact wp_ret0 C 16 rfl (by decide) (by decide) (⟨rfl, rfl⟩)
theorem pn16 : plainFor (⟨"java/lang/AbstractStringBuilder", "putStringAt", "(ILjava/lang/String;)V"⟩ : MethodName) = true := by first | (refine plainFor_of_name ?_; simp [plainName, overriddenIn]; done) | (refine plainFor_of_name ?_; decide +kernel) | decide +kernel
theorem pd9 : parseMethodDescriptor "(Ljava/lang/String;)V" = some ⟨[(.object "java/lang/String")], none⟩ := by decide +kernel
theorem pd10 : parseMethodDescriptor "([BIB)V" = some ⟨[(.array .byte), .int, .byte], none⟩ := by decide +kernel
def B_rm_psa : Prog := [(0, .aload_n 0, 1), (1, .aload_n 2, 1), (2, .invokevirtual 397, 3), (5, .aload_n 2, 1), (6, .aload_n 0, 1), (7, .getfield 15, 3), (10, .iload_n 1, 1), (11, .aload_n 0, 1), (12, .getfield 22, 3), (15, .invokevirtual 399, 3), (18, .return_, 1)]
theorem B_rm_psa_ok : okB jdk_68_method_73_code B_rm_psa = true := by decide +kernel
set_option maxRecDepth 65536 in
set_option maxHeartbeats 40000000 in
theorem rm_psa (l : Launch) (Z : State) (a0 : Array Value) (hw : ∀ d ∈ tables_1, d.before a0 Z = true) (ba vb sa b : Addr) (w u : Bool) (cs ds : List Int32) (cn p n : Int32) (cz : Int32) (S1 : Sta Z Z.heap "java/lang/String" "COMPACT_STRINGS" "Z" (.int cz)) (hcz : cz ≠ 0) (hp : p.toInt = cs.length) (hn : n.toInt = ds.length) (h16 : cs.length + ds.length ≤ 16) : Ct l Z EL1 nw1 (⟨"java/lang/AbstractStringBuilder", "putStringAt", "(ILjava/lang/String;)V"⟩ : MethodName) jdk_68_method_73_code 3 none [] ({ frames := 2, cells := 0, slots := 0, locals := 33 } : Room) [.ref ba, .int p, .ref sa] [(ba, true, .inl kSB, [.ref vb, .int 0, .int cn]), (vb, true, .inr .byte, (sbv cs).map bt), (sa, w, .inl kS, [.ref b, .int 0]), (b, u, .inr .byte, ds.map bt)] (fun v L => v = none ∧ L = [(ba, true, .inl kSB, [.ref vb, .int 0, .int cn]), (vb, true, .inr .byte, (sbv (cs ++ ds)).map bt), (sa, w, .inl kS, [.ref b, .int 0]), (b, u, .inr .byte, ds.map bt)]) := by
  refine ct_of pn16 (B := B_rm_psa) (ls := [.val (.ref ba), .val (.int p), .val (.ref sa)]) B_rm_psa_ok (ew1 hw) (fun m => by first | (simp [entryFrame, mkF, argsToLocals, Value.category]; done) | rfl) (fun K C => ?_)
  refine wp_blk C 0 2 (pc' := 2) (ls' := [.val (.ref ba), .val (.int p), .val (.ref sa)]) (st' := [.ref sa, .ref ba]) rfl ?_
  refine wp_front C 2 (L' := [(sa, w, .inl kS, [.ref b, .int 0]), (ba, true, .inl kSB, [.ref vb, .int 0, .int cn]), (vb, true, .inr .byte, (sbv cs).map bt), (b, u, .inr .byte, ds.map bt)]) rfl ?_
  refine wp_front C 1 (L' := [(ba, true, .inl kSB, [.ref vb, .int 0, .int cn]), (sa, w, .inl kS, [.ref b, .int 0]), (vb, true, .inr .byte, (sbv cs).map bt), (b, u, .inr .byte, ds.map bt)]) rfl ?_
  refine wp_private C (al := [.ref sa]) (rest := []) (L1 := [(vb, true, .inr .byte, (sbv cs).map bt), (b, u, .inr .byte, ds.map bt)]) (W := 0) (cells' := 0) (slots' := 0) 2 5 0 (rm_inf l Z a0 hw ba vb sa b w cn cz S1 hcz) rfl rfl rfl (wd hw 106 rfl) (wd hw 107 rfl) (selects_own (by decide) (wd hw 109 rfl) (wd hw 108 rfl) (wd hw 107 rfl)) (wd hw 108 rfl) (wd hw 110 rfl) (wd hw 65 rfl) (by decide) pd9 rfl rfl rfl rfl (by decide) (by decide) rfl rfl rfl (by decide) (by decide) (fun v L' hQ => ?_)
  obtain ⟨rfl, rfl⟩ := hQ
  show Wp K 0 0 [(ba, true, .inl kSB, [.ref vb, .int 0, .int cn]), (sa, w, .inl kS, [.ref b, .int 0]), (vb, true, .inr .byte, (sbv cs).map bt), (b, u, .inr .byte, ds.map bt)] 5 [.val (.ref ba), .val (.int p), .val (.ref sa)] []
  refine wp_blk C 3 2 (pc' := 7) (ls' := [.val (.ref ba), .val (.int p), .val (.ref sa)]) (st' := [.ref ba, .ref sa]) rfl ?_
  refine wp_get C 5 10 0 0 rfl rfl (wd hw 69 rfl) Via.refl rfl rfl rfl ?_
  refine wp_blk C 6 2 (pc' := 12) (ls' := [.val (.ref ba), .val (.int p), .val (.ref sa)]) (st' := [.ref ba, .int p, .ref vb, .ref sa]) rfl ?_
  refine wp_get C 8 15 0 1 rfl rfl (wd hw 71 rfl) Via.refl rfl rfl rfl ?_
  refine wp_front C 2 (L' := [(vb, true, .inr .byte, (sbv cs).map bt), (ba, true, .inl kSB, [.ref vb, .int 0, .int cn]), (sa, w, .inl kS, [.ref b, .int 0]), (b, u, .inr .byte, ds.map bt)]) rfl ?_
  refine wp_front C 3 (L' := [(b, u, .inr .byte, ds.map bt), (vb, true, .inr .byte, (sbv cs).map bt), (ba, true, .inl kSB, [.ref vb, .int 0, .int cn]), (sa, w, .inl kS, [.ref b, .int 0])]) rfl ?_
  refine wp_front C 3 (L' := [(sa, w, .inl kS, [.ref b, .int 0]), (b, u, .inr .byte, ds.map bt), (vb, true, .inr .byte, (sbv cs).map bt), (ba, true, .inl kSB, [.ref vb, .int 0, .int cn])]) rfl ?_
  refine wp_virtual C (al := [.ref vb, .int p, .int 0]) (rest := []) (L1 := [(ba, true, .inl kSB, [.ref vb, .int 0, .int cn])]) (W := 0) (cells' := 0) (slots' := 0) 9 18 0 (rm_gby l Z a0 hw sa b vb w u cs ds p n cz S1 hcz hp hn h16) rfl rfl rfl (wd hw 112 rfl) (wd hw 113 rfl) (nf_self (wd hw 115 rfl)) (wd hw 115 rfl) (wd hw 114 rfl) (wd hw 116 rfl) (wd hw 12 rfl) (by decide) pd10 rfl rfl rfl rfl (by decide) (by decide) rfl rfl rfl (by decide) (by decide) (fun v L' hQ => ?_)
  obtain ⟨rfl, rfl⟩ := hQ
  show Wp K 0 0 [(sa, w, .inl kS, [.ref b, .int 0]), (b, u, .inr .byte, ds.map bt), (vb, true, .inr .byte, (sbv (cs ++ ds)).map bt), (ba, true, .inl kSB, [.ref vb, .int 0, .int cn])] 18 [.val (.ref ba), .val (.int p), .val (.ref sa)] []
  refine wp_front C 1 (L' := [(b, u, .inr .byte, ds.map bt), (sa, w, .inl kS, [.ref b, .int 0]), (vb, true, .inr .byte, (sbv (cs ++ ds)).map bt), (ba, true, .inl kSB, [.ref vb, .int 0, .int cn])]) rfl ?_
  refine wp_front C 1 (L' := [(sa, w, .inl kS, [.ref b, .int 0]), (b, u, .inr .byte, ds.map bt), (vb, true, .inr .byte, (sbv (cs ++ ds)).map bt), (ba, true, .inl kSB, [.ref vb, .int 0, .int cn])]) rfl ?_
  refine wp_front C 2 (L' := [(vb, true, .inr .byte, (sbv (cs ++ ds)).map bt), (sa, w, .inl kS, [.ref b, .int 0]), (b, u, .inr .byte, ds.map bt), (ba, true, .inl kSB, [.ref vb, .int 0, .int cn])]) rfl ?_
  refine wp_front C 3 (L' := [(ba, true, .inl kSB, [.ref vb, .int 0, .int cn]), (vb, true, .inr .byte, (sbv (cs ++ ds)).map bt), (sa, w, .inl kS, [.ref b, .int 0]), (b, u, .inr .byte, ds.map bt)]) rfl ?_
  exact wp_ret0 C 10 rfl (by decide) (by decide) (⟨rfl, rfl⟩)
theorem pn17 : plainFor (⟨"java/lang/AbstractStringBuilder", "append", "(Ljava/lang/String;)Ljava/lang/AbstractStringBuilder;"⟩ : MethodName) = true := by first | (refine plainFor_of_name ?_; simp [plainName, overriddenIn]; done) | (refine plainFor_of_name ?_; decide +kernel) | decide +kernel
theorem pd11 : parseMethodDescriptor "()I" = some ⟨[], (some .int)⟩ := by decide +kernel
theorem pd12 : parseMethodDescriptor "(ILjava/lang/String;)V" = some ⟨[.int, (.object "java/lang/String")], none⟩ := by decide +kernel
theorem fd2 : parseFieldDescriptor "I" = some .int := by decide +kernel
def B_rm_aap : Prog := [(0, .aload_n 1, 1), (1, .ifnonnull 8, 3), (9, .aload_n 1, 1), (10, .invokevirtual 32, 3), (13, .istore_n 2, 1), (14, .aload_n 0, 1), (15, .aload_n 0, 1), (16, .getfield 79, 3), (19, .iload_n 2, 1), (20, .iadd, 1), (21, .invokevirtual 100, 3), (24, .aload_n 0, 1), (25, .aload_n 0, 1), (26, .getfield 79, 3), (29, .aload_n 1, 1), (30, .invokevirtual 208, 3), (33, .aload_n 0, 1), (34, .dup, 1), (35, .getfield 79, 3), (38, .iload_n 2, 1), (39, .iadd, 1), (40, .putfield 79, 3), (43, .aload_n 0, 1), (44, .areturn, 1)]
theorem B_rm_aap_ok : okB jdk_68_method_22_code B_rm_aap = true := by decide +kernel
set_option maxRecDepth 65536 in
set_option maxHeartbeats 40000000 in
theorem rm_aap (l : Launch) (Z : State) (a0 : Array Value) (hw : ∀ d ∈ tables_1, d.before a0 Z = true) (ba vb sa b : Addr) (w u : Bool) (cs ds : List Int32) (cn : Int32) (cz : Int32) (S1 : Sta Z Z.heap "java/lang/String" "COMPACT_STRINGS" "Z" (.int cz)) (hcz : cz ≠ 0) (hc : cn.toInt = cs.length) (h16 : cs.length + ds.length ≤ 16) : Ct l Z EL1 nw1 (⟨"java/lang/AbstractStringBuilder", "append", "(Ljava/lang/String;)Ljava/lang/AbstractStringBuilder;"⟩ : MethodName) jdk_68_method_22_code 3 (some (.object "java/lang/AbstractStringBuilder")) [] ({ frames := 3, cells := 0, slots := 0, locals := 47 } : Room) [.ref ba, .ref sa] [(ba, true, .inl kSB, [.ref vb, .int 0, .int cn]), (vb, true, .inr .byte, (sbv cs).map bt), (sa, w, .inl kS, [.ref b, .int 0]), (b, u, .inr .byte, ds.map bt)] (fun v L => ∃ cm : Int32, cm.toInt = (cs ++ ds).length ∧ v = some (.ref ba) ∧ L = [(ba, true, .inl kSB, [.ref vb, .int 0, .int cm]), (vb, true, .inr .byte, (sbv (cs ++ ds)).map bt), (sa, w, .inl kS, [.ref b, .int 0]), (b, u, .inr .byte, ds.map bt)]) := by
  refine ct_of pn17 (B := B_rm_aap) (ls := [.val (.ref ba), .val (.ref sa), .unset]) B_rm_aap_ok (ew1 hw) (fun m => by first | (simp [entryFrame, mkF, argsToLocals, Value.category]; done) | rfl) (fun K C => ?_)
  obtain ⟨n, hnn⟩ : ∃ n : Int32, ds.length.toInt32 = n := ⟨_, rfl⟩
  have hn : n.toInt = ds.length := by rw [← hnn]; exact len_toInt (by omega)
  refine wp_blk C 0 1 (pc' := 1) (ls' := [.val (.ref ba), .val (.ref sa), .unset]) (st' := [.ref sa]) rfl ?_
  refine wp_nonnullY C 1 9 rfl rfl (by decide) ?_
  refine wp_blk C 2 1 (pc' := 10) (ls' := [.val (.ref ba), .val (.ref sa), .unset]) (st' := [.ref sa]) rfl ?_
  refine wp_front C 3 (L' := [(b, u, .inr .byte, ds.map bt), (ba, true, .inl kSB, [.ref vb, .int 0, .int cn]), (vb, true, .inr .byte, (sbv cs).map bt), (sa, w, .inl kS, [.ref b, .int 0])]) rfl ?_
  refine wp_front C 3 (L' := [(sa, w, .inl kS, [.ref b, .int 0]), (b, u, .inr .byte, ds.map bt), (ba, true, .inl kSB, [.ref vb, .int 0, .int cn]), (vb, true, .inr .byte, (sbv cs).map bt)]) rfl ?_
  refine wp_virtual C (al := []) (rest := []) (L1 := [(ba, true, .inl kSB, [.ref vb, .int 0, .int cn]), (vb, true, .inr .byte, (sbv cs).map bt)]) (W := 0) (cells' := 0) (slots' := 0) 3 13 0 (rm_len l Z a0 hw sa b w u ds n cz S1 hcz hn) rfl rfl rfl (wd hw 83 rfl) (wd hw 84 rfl) (nf_self (wd hw 86 rfl)) (wd hw 86 rfl) (wd hw 85 rfl) (wd hw 87 rfl) (wd hw 12 rfl) (by decide) pd11 rfl rfl rfl rfl (by decide) (by decide) rfl rfl rfl (by decide) (by decide) (fun v L' hQ => ?_)
  obtain ⟨rfl, rfl⟩ := hQ
  show Wp K 0 0 [(sa, w, .inl kS, [.ref b, .int 0]), (b, u, .inr .byte, ds.map bt), (ba, true, .inl kSB, [.ref vb, .int 0, .int cn]), (vb, true, .inr .byte, (sbv cs).map bt)] 13 [.val (.ref ba), .val (.ref sa), .unset] [.int n]
  refine wp_blk C 4 3 (pc' := 16) (ls' := [.val (.ref ba), .val (.ref sa), .val (.int n)]) (st' := [.ref ba, .ref ba]) rfl ?_
  refine wp_get C 7 19 2 2 rfl rfl (wd hw 94 rfl) Via.refl rfl rfl rfl ?_
  refine wp_blk C 8 2 (pc' := 21) (ls' := [.val (.ref ba), .val (.ref sa), .val (.int n)]) (st' := [.int (cn + n), .ref ba]) rfl ?_
  obtain ⟨t, ht⟩ : ∃ nn0 : Int32, nn0 = cn + n := ⟨_, rfl⟩
  rw [← ht]
  have Ht : t.toInt = (cs.length + ds.length : Nat) := by rw [ht, addI hc hn]; omega
  refine wp_front C 3 (L' := [(vb, true, .inr .byte, (sbv cs).map bt), (sa, w, .inl kS, [.ref b, .int 0]), (b, u, .inr .byte, ds.map bt), (ba, true, .inl kSB, [.ref vb, .int 0, .int cn])]) rfl ?_
  refine wp_front C 3 (L' := [(ba, true, .inl kSB, [.ref vb, .int 0, .int cn]), (vb, true, .inr .byte, (sbv cs).map bt), (sa, w, .inl kS, [.ref b, .int 0]), (b, u, .inr .byte, ds.map bt)]) rfl ?_
  refine wp_private C (al := [.int t]) (rest := []) (L1 := [(sa, w, .inl kS, [.ref b, .int 0]), (b, u, .inr .byte, ds.map bt)]) (W := 0) (cells' := 0) (slots' := 0) 10 24 0 (rm_ens l Z a0 hw ba vb cs cn t (cs.length + ds.length) (by omega) Ht h16) rfl rfl rfl (wd hw 96 rfl) (wd hw 97 rfl) (selects_own (by decide) (wd hw 99 rfl) (wd hw 98 rfl) (wd hw 97 rfl)) (wd hw 98 rfl) (wd hw 100 rfl) (wd hw 65 rfl) (by decide) pd8 rfl rfl rfl rfl (by decide) (by decide) rfl rfl rfl (by decide) (by decide) (fun v L' hQ => ?_)
  obtain ⟨rfl, rfl⟩ := hQ
  show Wp K 0 0 [(ba, true, .inl kSB, [.ref vb, .int 0, .int cn]), (vb, true, .inr .byte, (sbv cs).map bt), (sa, w, .inl kS, [.ref b, .int 0]), (b, u, .inr .byte, ds.map bt)] 24 [.val (.ref ba), .val (.ref sa), .val (.int n)] []
  refine wp_blk C 11 2 (pc' := 26) (ls' := [.val (.ref ba), .val (.ref sa), .val (.int n)]) (st' := [.ref ba, .ref ba]) rfl ?_
  refine wp_get C 13 29 0 2 rfl rfl (wd hw 94 rfl) Via.refl rfl rfl rfl ?_
  refine wp_blk C 14 1 (pc' := 30) (ls' := [.val (.ref ba), .val (.ref sa), .val (.int n)]) (st' := [.ref sa, .int cn, .ref ba]) rfl ?_
  refine wp_private C (al := [.int cn, .ref sa]) (rest := []) (L1 := []) (W := 0) (cells' := 0) (slots' := 0) 15 33 0 (rm_psa l Z a0 hw ba vb sa b w u cs ds cn cn n cz S1 hcz hc hn h16) rfl rfl rfl (wd hw 101 rfl) (wd hw 102 rfl) (selects_own (by decide) (wd hw 104 rfl) (wd hw 103 rfl) (wd hw 102 rfl)) (wd hw 103 rfl) (wd hw 105 rfl) (wd hw 65 rfl) (by decide) pd12 rfl rfl rfl rfl (by decide) (by decide) rfl rfl rfl (by decide) (by decide) (fun v L' hQ => ?_)
  obtain ⟨rfl, rfl⟩ := hQ
  show Wp K 0 0 [(ba, true, .inl kSB, [.ref vb, .int 0, .int cn]), (vb, true, .inr .byte, (sbv (cs ++ ds)).map bt), (sa, w, .inl kS, [.ref b, .int 0]), (b, u, .inr .byte, ds.map bt)] 33 [.val (.ref ba), .val (.ref sa), .val (.int n)] []
  refine wp_blk C 16 2 (pc' := 35) (ls' := [.val (.ref ba), .val (.ref sa), .val (.int n)]) (st' := [.ref ba, .ref ba]) rfl ?_
  refine wp_get C 18 38 0 2 rfl rfl (wd hw 94 rfl) Via.refl rfl rfl rfl ?_
  refine wp_blk C 19 2 (pc' := 40) (ls' := [.val (.ref ba), .val (.ref sa), .val (.int n)]) (st' := [.int (cn + n), .ref ba]) rfl ?_
  obtain ⟨cm, hcm⟩ : ∃ nn0 : Int32, nn0 = cn + n := ⟨_, rfl⟩
  rw [← hcm]
  have Hcm : cm.toInt = (cs ++ ds).length := by rw [hcm, addI hc hn, List.length_append]; omega
  refine wp_put C (ty := .int) (v := .int cm) (vs' := [.ref vb, .int 0, .int cm]) (L' := [(ba, true, .inl kSB, [.ref vb, .int 0, .int cm]), (vb, true, .inr .byte, (sbv (cs ++ ds)).map bt), (sa, w, .inl kS, [.ref b, .int 0]), (b, u, .inr .byte, ds.map bt)]) 21 43 0 2 rfl rfl (wd hw 94 rfl) Via.refl (Or.inl (wd hw 95 rfl)) (wd hw 56 rfl) (kSB_ok hw) fd2 rfl rfl rfl rfl rfl rfl rfl ?_
  refine wp_blk C 22 1 (pc' := 44) (ls' := [.val (.ref ba), .val (.ref sa), .val (.int n)]) (st' := [.ref ba]) rfl ?_
  exact wp_retA C 23 rfl rfl rfl (by decide) (by decide) (⟨cm, Hcm, rfl, rfl⟩)
theorem pn18 : plainFor (⟨"java/lang/StringBuilder", "append", "(Ljava/lang/String;)Ljava/lang/StringBuilder;"⟩ : MethodName) = true := by first | (refine plainFor_of_name ?_; simp [plainName, overriddenIn]; done) | (refine plainFor_of_name ?_; decide +kernel) | decide +kernel
theorem pd13 : parseMethodDescriptor "(Ljava/lang/String;)Ljava/lang/AbstractStringBuilder;" = some ⟨[(.object "java/lang/String")], (some (.object "java/lang/AbstractStringBuilder"))⟩ := by decide +kernel
def B_rm_sap : Prog := [(0, .aload_n 0, 1), (1, .aload_n 1, 1), (2, .invokespecial 29, 3), (5, .pop, 1), (6, .aload_n 0, 1), (7, .areturn, 1)]
theorem B_rm_sap_ok : okB jdk_67_method_7_code B_rm_sap = true := by decide +kernel
set_option maxRecDepth 65536 in
set_option maxHeartbeats 40000000 in
theorem rm_sap (l : Launch) (Z : State) (a0 : Array Value) (hw : ∀ d ∈ tables_1, d.before a0 Z = true) (ba vb sa b : Addr) (w u : Bool) (cs ds : List Int32) (cn : Int32) (cz : Int32) (S1 : Sta Z Z.heap "java/lang/String" "COMPACT_STRINGS" "Z" (.int cz)) (hcz : cz ≠ 0) (hc : cn.toInt = cs.length) (h16 : cs.length + ds.length ≤ 16) : Ct l Z EL1 nw1 (⟨"java/lang/StringBuilder", "append", "(Ljava/lang/String;)Ljava/lang/StringBuilder;"⟩ : MethodName) jdk_67_method_7_code 2 (some (.object "java/lang/StringBuilder")) [] ({ frames := 4, cells := 0, slots := 0, locals := 61 } : Room) [.ref ba, .ref sa] [(ba, true, .inl kSB, [.ref vb, .int 0, .int cn]), (vb, true, .inr .byte, (sbv cs).map bt), (sa, w, .inl kS, [.ref b, .int 0]), (b, u, .inr .byte, ds.map bt)] (fun v L => ∃ cm : Int32, cm.toInt = (cs ++ ds).length ∧ v = some (.ref ba) ∧ L = [(ba, true, .inl kSB, [.ref vb, .int 0, .int cm]), (vb, true, .inr .byte, (sbv (cs ++ ds)).map bt), (sa, w, .inl kS, [.ref b, .int 0]), (b, u, .inr .byte, ds.map bt)]) := by
  refine ct_of pn18 (B := B_rm_sap) (ls := [.val (.ref ba), .val (.ref sa)]) B_rm_sap_ok (ew1 hw) (fun m => by first | (simp [entryFrame, mkF, argsToLocals, Value.category]; done) | rfl) (fun K C => ?_)
  refine wp_blk C 0 2 (pc' := 2) (ls' := [.val (.ref ba), .val (.ref sa)]) (st' := [.ref sa, .ref ba]) rfl ?_
  refine wp_super C (al := [.ref sa]) (rest := []) (L1 := []) (W := 0) (cells' := 0) (slots' := 0) 2 5 0 (rm_aap l Z a0 hw ba vb sa b w u cs ds cn cz S1 hcz hc h16) rfl rfl rfl (wd hw 78 rfl) (same_sib (by decide) (wd hw 99 rfl) rfl (wd hw 79 rfl)) (wd hw 79 rfl) (wd hw 80 rfl) (by decide) (wd hw 82 rfl) (wd hw 65 rfl) pd13 rfl rfl rfl rfl (by decide) (by decide) rfl rfl rfl (by decide) (by decide) (fun v L' hQ => ?_)
  obtain ⟨cm, Hcm, rfl, rfl⟩ := hQ
  show Wp K 0 0 [(ba, true, .inl kSB, [.ref vb, .int 0, .int cm]), (vb, true, .inr .byte, (sbv (cs ++ ds)).map bt), (sa, w, .inl kS, [.ref b, .int 0]), (b, u, .inr .byte, ds.map bt)] 5 [.val (.ref ba), .val (.ref sa)] [.ref ba]
  refine wp_blk C 3 2 (pc' := 7) (ls' := [.val (.ref ba), .val (.ref sa)]) (st' := [.ref ba]) rfl ?_
  exact wp_retA C 5 rfl rfl rfl (by decide) (by decide) (⟨cm, Hcm, rfl, rfl⟩)
theorem pn19 : plainFor (⟨"java/lang/AbstractStringBuilder", "getValue", "()[B"⟩ : MethodName) = true := by first | (refine plainFor_of_name ?_; simp [plainName, overriddenIn]; done) | (refine plainFor_of_name ?_; decide +kernel) | decide +kernel
def B_rm_gv : Prog := [(0, .aload_n 0, 1), (1, .getfield 15, 3), (4, .areturn, 1)]
theorem B_rm_gv_ok : okB jdk_68_method_64_code B_rm_gv = true := by decide +kernel
set_option maxRecDepth 65536 in
set_option maxHeartbeats 40000000 in
theorem rm_gv (l : Launch) (Z : State) (a0 : Array Value) (hw : ∀ d ∈ tables_1, d.before a0 Z = true) (ba vb : Addr) (cn : Int32) : Ct l Z EL1 nw1 (⟨"java/lang/AbstractStringBuilder", "getValue", "()[B"⟩ : MethodName) jdk_68_method_64_code 1 (some (.array .byte)) [] ({ frames := 0, cells := 0, slots := 0, locals := 0 } : Room) [.ref ba] [(ba, true, .inl kSB, [.ref vb, .int 0, .int cn])] (fun v L => v = some (.ref vb) ∧ L = [(ba, true, .inl kSB, [.ref vb, .int 0, .int cn])]) := by
  refine ct_of pn19 (B := B_rm_gv) (ls := [.val (.ref ba)]) B_rm_gv_ok (ew1 hw) (fun m => by first | (simp [entryFrame, mkF, argsToLocals, Value.category]; done) | rfl) (fun K C => ?_)
  refine wp_blk C 0 1 (pc' := 1) (ls' := [.val (.ref ba)]) (st' := [.ref ba]) rfl ?_
  refine wp_get C 1 4 0 0 rfl rfl (wd hw 69 rfl) Via.refl rfl rfl rfl ?_
  exact wp_retA C 2 rfl rfl rfl (by decide) (by decide) (⟨rfl, rfl⟩)
theorem pn20 : plainFor (⟨"java/lang/AbstractStringBuilder", "length", "()I"⟩ : MethodName) = true := by first | (refine plainFor_of_name ?_; simp [plainName, overriddenIn]; done) | (refine plainFor_of_name ?_; decide +kernel) | decide +kernel
def B_rm_aln : Prog := [(0, .aload_n 0, 1), (1, .getfield 79, 3), (4, .ireturn, 1)]
theorem B_rm_aln_ok : okB jdk_68_method_6_code B_rm_aln = true := by decide +kernel
set_option maxRecDepth 65536 in
set_option maxHeartbeats 40000000 in
theorem rm_aln (l : Launch) (Z : State) (a0 : Array Value) (hw : ∀ d ∈ tables_1, d.before a0 Z = true) (ba vb : Addr) (cn : Int32) : Ct l Z EL1 nw1 (⟨"java/lang/AbstractStringBuilder", "length", "()I"⟩ : MethodName) jdk_68_method_6_code 1 (some .int) [] ({ frames := 0, cells := 0, slots := 0, locals := 0 } : Room) [.ref ba] [(ba, true, .inl kSB, [.ref vb, .int 0, .int cn])] (fun v L => v = some (.int cn) ∧ L = [(ba, true, .inl kSB, [.ref vb, .int 0, .int cn])]) := by
  refine ct_of pn20 (B := B_rm_aln) (ls := [.val (.ref ba)]) B_rm_aln_ok (ew1 hw) (fun m => by first | (simp [entryFrame, mkF, argsToLocals, Value.category]; done) | rfl) (fun K C => ?_)
  refine wp_blk C 0 1 (pc' := 1) (ls' := [.val (.ref ba)]) (st' := [.ref ba]) rfl ?_
  refine wp_get C 1 4 0 2 rfl rfl (wd hw 94 rfl) Via.refl rfl rfl rfl ?_
  exact wp_retI C 2 rfl (by decide) (by decide) (⟨rfl, rfl⟩)
theorem pn21 : plainFor (⟨"java/lang/StringBuilder", "length", "()I"⟩ : MethodName) = true := by first | (refine plainFor_of_name ?_; simp [plainName, overriddenIn]; done) | (refine plainFor_of_name ?_; decide +kernel) | decide +kernel
def B_rm_sln : Prog := [(0, .aload_n 0, 1), (1, .invokespecial 343, 3), (4, .ireturn, 1)]
theorem B_rm_sln_ok : okB jdk_67_method_93_code B_rm_sln = true := by decide +kernel
set_option maxRecDepth 65536 in
set_option maxHeartbeats 40000000 in
theorem rm_sln (l : Launch) (Z : State) (a0 : Array Value) (hw : ∀ d ∈ tables_1, d.before a0 Z = true) (ba vb : Addr) (cn : Int32) : Ct l Z EL1 nw1 (⟨"java/lang/StringBuilder", "length", "()I"⟩ : MethodName) jdk_67_method_93_code 1 (some .int) [] ({ frames := 1, cells := 0, slots := 0, locals := 12 } : Room) [.ref ba] [(ba, true, .inl kSB, [.ref vb, .int 0, .int cn])] (fun v L => v = some (.int cn) ∧ L = [(ba, true, .inl kSB, [.ref vb, .int 0, .int cn])]) := by
  refine ct_of pn21 (B := B_rm_sln) (ls := [.val (.ref ba)]) B_rm_sln_ok (ew1 hw) (fun m => by first | (simp [entryFrame, mkF, argsToLocals, Value.category]; done) | rfl) (fun K C => ?_)
  refine wp_blk C 0 1 (pc' := 1) (ls' := [.val (.ref ba)]) (st' := [.ref ba]) rfl ?_
  refine wp_super C (al := []) (rest := []) (L1 := []) (W := 0) (cells' := 0) (slots' := 0) 1 4 0 (rm_aln l Z a0 hw ba vb cn) rfl rfl rfl (wd hw 145 rfl) (same_sib (by decide) (wd hw 99 rfl) rfl (wd hw 141 rfl)) (wd hw 141 rfl) (wd hw 80 rfl) (by decide) (wd hw 146 rfl) (wd hw 65 rfl) pd11 rfl rfl rfl rfl (by decide) (by decide) rfl rfl rfl (by decide) (by decide) (fun v L' hQ => ?_)
  obtain ⟨rfl, rfl⟩ := hQ
  show Wp K 0 0 [(ba, true, .inl kSB, [.ref vb, .int 0, .int cn])] 4 [.val (.ref ba)] [.int cn]
  exact wp_retI C 2 rfl (by decide) (by decide) (⟨rfl, rfl⟩)
theorem pn22 : plainFor (⟨"java/lang/AbstractStringBuilder", "isLatin1", "()Z"⟩ : MethodName) = true := by first | (refine plainFor_of_name ?_; simp [plainName, overriddenIn]; done) | (refine plainFor_of_name ?_; decide +kernel) | decide +kernel
def B_rm_ail : Prog := [(0, .getstatic 18, 3), (3, .ifCond .eq 14, 3), (6, .aload_n 0, 1), (7, .getfield 22, 3), (10, .ifCond .ne 7, 3), (13, .iconst 1, 1), (14, .goto 4, 3), (18, .ireturn, 1)]
theorem B_rm_ail_ok : okB jdk_68_method_68_code B_rm_ail = true := by decide +kernel
set_option maxRecDepth 65536 in
set_option maxHeartbeats 40000000 in
theorem rm_ail (l : Launch) (Z : State) (a0 : Array Value) (hw : ∀ d ∈ tables_1, d.before a0 Z = true) (ba vb : Addr) (cn : Int32) (cz : Int32) (S1 : Sta Z Z.heap "java/lang/String" "COMPACT_STRINGS" "Z" (.int cz)) (hcz : cz ≠ 0) : Ct l Z EL1 nw1 (⟨"java/lang/AbstractStringBuilder", "isLatin1", "()Z"⟩ : MethodName) jdk_68_method_68_code 1 (some .boolean) [] ({ frames := 0, cells := 0, slots := 0, locals := 0 } : Room) [.ref ba] [(ba, true, .inl kSB, [.ref vb, .int 0, .int cn])] (fun v L => v = some (.int 1) ∧ L = [(ba, true, .inl kSB, [.ref vb, .int 0, .int cn])]) := by
  refine ct_of pn22 (B := B_rm_ail) (ls := [.val (.ref ba)]) B_rm_ail_ok (ew1 hw) (fun m => by first | (simp [entryFrame, mkF, argsToLocals, Value.category]; done) | rfl) (fun K C => ?_)
  refine wp_getS C 0 3 rfl rfl (wd hw 68 rfl) Via.refl S1 ?_
  refine wp_ifz C 1 17 6 rfl rfl rfl (by decide) (fun h => absurd h (hcz)) (fun _ => ?_)
  refine wp_blk C 2 1 (pc' := 7) (ls' := [.val (.ref ba)]) (st' := [.ref ba]) rfl ?_
  refine wp_get C 3 10 0 1 rfl rfl (wd hw 71 rfl) Via.refl rfl rfl rfl ?_
  refine wp_ifz C 4 17 13 rfl rfl rfl (by decide) (fun h => absurd h (fun q : (0 : Int32) ≠ 0 => absurd q (by decide))) (fun _ => ?_)
  refine wp_blk C 5 2 (pc' := 18) (ls' := [.val (.ref ba)]) (st' := [.int 1]) rfl ?_
  exact wp_retN C (z' := 1) 7 rfl (Or.inl rfl) rfl (by decide) (by decide) (⟨rfl, rfl⟩)
theorem pn23 : plainFor (⟨"java/lang/String", "<init>", "(Ljava/lang/AbstractStringBuilder;Ljava/lang/Void;)V"⟩ : MethodName) = true := by first | (refine plainFor_of_name ?_; simp [plainName, overriddenIn]; done) | (refine plainFor_of_name ?_; decide +kernel) | decide +kernel
theorem pd14 : parseMethodDescriptor "()[B" = some ⟨[], (some (.array .byte))⟩ := by decide +kernel
theorem pd15 : parseMethodDescriptor "()Z" = some ⟨[], (some .boolean)⟩ := by decide +kernel
def B_rm_sab : Prog := [(0, .aload_n 0, 1), (1, .invokespecial 1, 3), (4, .aload_n 1, 1), (5, .invokevirtual 552, 3), (8, .astore_n 3, 1), (9, .aload_n 1, 1), (10, .invokevirtual 549, 3), (13, .istore 4, 2), (15, .aload_n 1, 1), (16, .invokevirtual 1047, 3), (19, .ifCond .eq 22, 3), (22, .aload_n 0, 1), (23, .iconst 0, 1), (24, .putfield 15, 3), (27, .aload_n 0, 1), (28, .aload_n 3, 1), (29, .iconst 0, 1), (30, .iload 4, 2), (32, .invokestatic 54, 3), (35, .putfield 9, 3), (38, .goto 59, 3), (97, .return_, 1)]
theorem B_rm_sab_ok : okB jdk_42_method_150_code B_rm_sab = true := by decide +kernel
set_option maxRecDepth 65536 in
set_option maxHeartbeats 40000000 in
theorem rm_sab (l : Launch) (Z : State) (a0 : Array Value) (hw : ∀ d ∈ tables_1, d.before a0 Z = true) (ra ba vb : Addr) (cs : List Int32) (cn : Int32) (cz : Int32) (S1 : Sta Z Z.heap "java/lang/String" "COMPACT_STRINGS" "Z" (.int cz)) (hcz : cz ≠ 0) (hc : cn.toInt = cs.length) (hlt : cs.length < 16) : Ct l Z EL1 nw1 (⟨"java/lang/String", "<init>", "(Ljava/lang/AbstractStringBuilder;Ljava/lang/Void;)V"⟩ : MethodName) jdk_42_method_150_code 5 none [] ({ frames := 3, cells := 1, slots := 16, locals := 49 } : Room) [.ref ra, .ref ba, .null] [(ra, true, .inl kS, [.null, .int 0]), (ba, true, .inl kSB, [.ref vb, .int 0, .int cn]), (vb, true, .inr .byte, (sbv cs).map bt)] (fun v L => v = none ∧ ∃ rb : Addr, L = [(ra, true, .inl kS, [.ref rb, .int 0]), (rb, true, .inr .byte, cs.map bt)]) := by
  refine ct_of pn23 (B := B_rm_sab) (ls := [.val (.ref ra), .val (.ref ba), .val (.null), .unset, .unset]) B_rm_sab_ok (ew1 hw) (fun m => by first | (simp [entryFrame, mkF, argsToLocals, Value.category]; done) | rfl) (fun K C => ?_)
  refine wp_blk C 0 1 (pc' := 1) (ls' := [.val (.ref ra), .val (.ref ba), .val (.null), .unset, .unset]) (st' := [.ref ra]) rfl ?_
  refine wp_initO C (W := 0) 1 4 rfl rfl (wd hw 21 rfl) (wd hw 22 rfl) (wd hw 23 rfl) (by decide) rfl (by decide) rfl ?_
  refine wp_blk C 2 1 (pc' := 5) (ls' := [.val (.ref ra), .val (.ref ba), .val (.null), .unset, .unset]) (st' := [.ref ba]) rfl ?_
  refine wp_front C 1 (L' := [(ba, true, .inl kSB, [.ref vb, .int 0, .int cn]), (ra, true, .inl kS, [.null, .int 0]), (vb, true, .inr .byte, (sbv cs).map bt)]) rfl ?_
  refine wp_virtual C (al := []) (rest := []) (L1 := [(ra, true, .inl kS, [.null, .int 0]), (vb, true, .inr .byte, (sbv cs).map bt)]) (W := 0) (cells' := 0) (slots' := 0) 3 8 0 (rm_gv l Z a0 hw ba vb cn) rfl rfl rfl (wd hw 134 rfl) (wd hw 135 rfl) (nf_self (wd hw 137 rfl)) (wd hw 137 rfl) (wd hw 136 rfl) (wd hw 138 rfl) (wd hw 65 rfl) (by decide) pd14 rfl rfl rfl rfl (by decide) (by decide) rfl rfl rfl (by decide) (by decide) (fun v L' hQ => ?_)
  obtain ⟨rfl, rfl⟩ := hQ
  show Wp K 0 0 [(ba, true, .inl kSB, [.ref vb, .int 0, .int cn]), (ra, true, .inl kS, [.null, .int 0]), (vb, true, .inr .byte, (sbv cs).map bt)] 8 [.val (.ref ra), .val (.ref ba), .val (.null), .unset, .unset] [.ref vb]
  refine wp_blk C 4 2 (pc' := 10) (ls' := [.val (.ref ra), .val (.ref ba), .val (.null), .val (.ref vb), .unset]) (st' := [.ref ba]) rfl ?_
  refine wp_virtual C (al := []) (rest := []) (L1 := [(ra, true, .inl kS, [.null, .int 0]), (vb, true, .inr .byte, (sbv cs).map bt)]) (W := 0) (cells' := 0) (slots' := 0) 6 13 0 (rm_sln l Z a0 hw ba vb cn) rfl rfl rfl (wd hw 139 rfl) (wd hw 140 rfl) (nf_sib (wd hw 99 rfl) rfl) (wd hw 142 rfl) (wd hw 143 rfl) (wd hw 144 rfl) (wd hw 57 rfl) (by decide) pd11 rfl rfl rfl rfl (by decide) (by decide) rfl rfl rfl (by decide) (by decide) (fun v L' hQ => ?_)
  obtain ⟨rfl, rfl⟩ := hQ
  show Wp K 0 0 [(ba, true, .inl kSB, [.ref vb, .int 0, .int cn]), (ra, true, .inl kS, [.null, .int 0]), (vb, true, .inr .byte, (sbv cs).map bt)] 13 [.val (.ref ra), .val (.ref ba), .val (.null), .val (.ref vb), .unset] [.int cn]
  refine wp_blk C 7 2 (pc' := 16) (ls' := [.val (.ref ra), .val (.ref ba), .val (.null), .val (.ref vb), .val (.int cn)]) (st' := [.ref ba]) rfl ?_
  refine wp_virtual C (al := []) (rest := []) (L1 := [(ra, true, .inl kS, [.null, .int 0]), (vb, true, .inr .byte, (sbv cs).map bt)]) (W := 0) (cells' := 0) (slots' := 0) 9 19 0 (rm_ail l Z a0 hw ba vb cn cz S1 hcz) rfl rfl rfl (wd hw 147 rfl) (wd hw 148 rfl) (nf_self (wd hw 150 rfl)) (wd hw 150 rfl) (wd hw 149 rfl) (wd hw 151 rfl) (wd hw 65 rfl) (by decide) pd15 rfl rfl rfl rfl (by decide) (by decide) rfl rfl rfl (by decide) (by decide) (fun v L' hQ => ?_)
  obtain ⟨rfl, rfl⟩ := hQ
  show Wp K 0 0 [(ba, true, .inl kSB, [.ref vb, .int 0, .int cn]), (ra, true, .inl kS, [.null, .int 0]), (vb, true, .inr .byte, (sbv cs).map bt)] 19 [.val (.ref ra), .val (.ref ba), .val (.null), .val (.ref vb), .val (.int cn)] [.int 1]
  refine wp_ifz C 10 41 22 rfl rfl rfl (by decide) (fun h => absurd h (fun q : (1 : Int32) = 0 => absurd q (by decide))) (fun _ => ?_)
  refine wp_blk C 11 2 (pc' := 24) (ls' := [.val (.ref ra), .val (.ref ba), .val (.null), .val (.ref vb), .val (.int cn)]) (st' := [.int 0, .ref ra]) rfl ?_
  refine wp_put C (ty := .byte) (v := .int 0) (vs' := [.null, .int 0]) (L' := [(ba, true, .inl kSB, [.ref vb, .int 0, .int cn]), (ra, true, .inl kS, [.null, .int 0]), (vb, true, .inr .byte, (sbv cs).map bt)]) 13 27 1 1 rfl rfl (wd hw 31 rfl) Via.refl (Or.inr ⟨wd hw 27 rfl, rfl, rfl⟩) (wd hw 11 rfl) (kS_ok hw) fd0 rfl rfl rfl rfl rfl rfl rfl ?_
  refine wp_blk C 14 4 (pc' := 32) (ls' := [.val (.ref ra), .val (.ref ba), .val (.null), .val (.ref vb), .val (.int cn)]) (st' := [.int cn, .int 0, .ref vb, .ref ra]) rfl ?_
  refine wp_front C 2 (L' := [(vb, true, .inr .byte, (sbv cs).map bt), (ba, true, .inl kSB, [.ref vb, .int 0, .int cn]), (ra, true, .inl kS, [.null, .int 0])]) rfl ?_
  refine wp_static C (al := [.ref vb, .int 0, .int cn]) (rest := [.ref ra]) (L1 := [(ba, true, .inl kSB, [.ref vb, .int 0, .int cn]), (ra, true, .inl kS, [.null, .int 0])]) (W := 1) (cells' := 1) (slots' := 16) 18 35 (rm_cor l Z a0 hw vb (sbv cs) 0 cn 0 cs.length rfl (by rw [hc]; omega) (by rw [sbv_len (by omega)]; omega) (by rw [sbv_len (by omega)]; decide) (Or.inr (by rw [sbv_len (by omega)]; omega))) rfl rfl (wd hw 152 rfl) (wd hw 153 rfl) (wd hw 155 rfl) (wd hw 154 rfl) (by decide) pd7 rfl rfl rfl rfl (by decide) (by decide) rfl rfl rfl (by decide) (by decide) (fun v L' hQ => ?_)
  obtain ⟨rb, rfl, rfl⟩ := hQ
  show Wp K 1 16 [(rb, true, .inr .byte, (((sbv cs).drop 0).take cs.length).map bt), (vb, true, .inr .byte, (sbv cs).map bt), (ba, true, .inl kSB, [.ref vb, .int 0, .int cn]), (ra, true, .inl kS, [.null, .int 0])] 35 [.val (.ref ra), .val (.ref ba), .val (.null), .val (.ref vb), .val (.int cn)] [.ref rb, .ref ra]
  rw [sbv_take]
  refine wp_put C (ty := (.array .byte)) (v := .ref rb) (vs' := [.ref rb, .int 0]) (L' := [(rb, true, .inr .byte, cs.map bt), (vb, true, .inr .byte, (sbv cs).map bt), (ba, true, .inl kSB, [.ref vb, .int 0, .int cn]), (ra, true, .inl kS, [.ref rb, .int 0])]) 19 38 3 0 rfl rfl (wd hw 30 rfl) Via.refl (Or.inr ⟨wd hw 26 rfl, rfl, rfl⟩) (wd hw 11 rfl) (kS_ok hw) fd1 rfl rfl rfl rfl rfl rfl rfl ?_
  refine wp_blk C 20 1 (pc' := 97) (ls' := [.val (.ref ra), .val (.ref ba), .val (.null), .val (.ref vb), .val (.int cn)]) (st' := []) rfl ?_
  refine wp_drop C 2 (L' := [(rb, true, .inr .byte, cs.map bt), (vb, true, .inr .byte, (sbv cs).map bt), (ra, true, .inl kS, [.ref rb, .int 0])]) rfl ?_
  refine wp_drop C 1 (L' := [(rb, true, .inr .byte, cs.map bt), (ra, true, .inl kS, [.ref rb, .int 0])]) rfl ?_
  refine wp_front C 1 (L' := [(ra, true, .inl kS, [.ref rb, .int 0]), (rb, true, .inr .byte, cs.map bt)]) rfl ?_
  exact wp_ret0 C 21 rfl (by decide) (by decide) (⟨rfl, rb, rfl⟩)
theorem pn24 : plainFor (⟨"java/lang/String", "<init>", "(Ljava/lang/StringBuilder;)V"⟩ : MethodName) = true := by first | (refine plainFor_of_name ?_; simp [plainName, overriddenIn]; done) | (refine plainFor_of_name ?_; decide +kernel) | decide +kernel
theorem pd16 : parseMethodDescriptor "(Ljava/lang/AbstractStringBuilder;Ljava/lang/Void;)V" = some ⟨[(.object "java/lang/AbstractStringBuilder"), (.object "java/lang/Void")], none⟩ := by decide +kernel
def B_rm_ssb : Prog := [(0, .aload_n 0, 1), (1, .aload_n 1, 1), (2, .aconst_null, 1), (3, .invokespecial 489, 3), (6, .return_, 1)]
theorem B_rm_ssb_ok : okB jdk_42_method_53_code B_rm_ssb = true := by decide +kernel
set_option maxRecDepth 65536 in
set_option maxHeartbeats 40000000 in
theorem rm_ssb (l : Launch) (Z : State) (a0 : Array Value) (hw : ∀ d ∈ tables_1, d.before a0 Z = true) (ra ba vb : Addr) (cs : List Int32) (cn : Int32) (cz : Int32) (S1 : Sta Z Z.heap "java/lang/String" "COMPACT_STRINGS" "Z" (.int cz)) (hcz : cz ≠ 0) (hc : cn.toInt = cs.length) (hlt : cs.length < 16) : Ct l Z EL1 nw1 (⟨"java/lang/String", "<init>", "(Ljava/lang/StringBuilder;)V"⟩ : MethodName) jdk_42_method_53_code 2 none [] ({ frames := 4, cells := 1, slots := 16, locals := 65 } : Room) [.ref ra, .ref ba] [(ra, true, .inl kS, [.null, .int 0]), (ba, true, .inl kSB, [.ref vb, .int 0, .int cn]), (vb, true, .inr .byte, (sbv cs).map bt)] (fun v L => v = none ∧ ∃ rb : Addr, L = [(ra, true, .inl kS, [.ref rb, .int 0]), (rb, true, .inr .byte, cs.map bt)]) := by
  refine ct_of pn24 (B := B_rm_ssb) (ls := [.val (.ref ra), .val (.ref ba)]) B_rm_ssb_ok (ew1 hw) (fun m => by first | (simp [entryFrame, mkF, argsToLocals, Value.category]; done) | rfl) (fun K C => ?_)
  refine wp_blk C 0 3 (pc' := 3) (ls' := [.val (.ref ra), .val (.ref ba)]) (st' := [.null, .ref ba, .ref ra]) rfl ?_
  refine wp_init C (al := [.ref ba, .null]) (rest := []) (L1 := []) (W := 0) (cells' := 1) (slots' := 16) 3 6 (rm_sab l Z a0 hw ra ba vb cs cn cz S1 hcz hc hlt) rfl rfl (wd hw 131 rfl) (wd hw 132 rfl) (wd hw 133 rfl) (wd hw 12 rfl) rfl (by decide) pd16 rfl rfl rfl rfl (by decide) (by decide) rfl rfl rfl (by decide) (by decide) (fun v L' hQ => ?_)
  obtain ⟨rfl, rb, rfl⟩ := hQ
  show Wp K 1 16 [(ra, true, .inl kS, [.ref rb, .int 0]), (rb, true, .inr .byte, cs.map bt)] 6 [.val (.ref ra), .val (.ref ba)] []
  exact wp_ret0 C 4 rfl (by decide) (by decide) (⟨rfl, rb, rfl⟩)
theorem pn25 : plainFor (⟨"java/lang/StringBuilder", "toString", "()Ljava/lang/String;"⟩ : MethodName) = true := by first | (refine plainFor_of_name ?_; simp [plainName, overriddenIn]; done) | (refine plainFor_of_name ?_; decide +kernel) | decide +kernel
theorem pd17 : parseMethodDescriptor "(Ljava/lang/StringBuilder;)V" = some ⟨[(.object "java/lang/StringBuilder")], none⟩ := by decide +kernel
def B_rm_tos : Prog := [(0, .new 18, 3), (3, .dup, 1), (4, .aload_n 0, 1), (5, .invokespecial 137, 3), (8, .areturn, 1)]
theorem B_rm_tos_ok : okB jdk_67_method_42_code B_rm_tos = true := by decide +kernel
set_option maxRecDepth 65536 in
set_option maxHeartbeats 40000000 in
theorem rm_tos (l : Launch) (Z : State) (a0 : Array Value) (hw : ∀ d ∈ tables_1, d.before a0 Z = true) (ba vb : Addr) (cs : List Int32) (cn : Int32) (cz : Int32) (S1 : Sta Z Z.heap "java/lang/String" "COMPACT_STRINGS" "Z" (.int cz)) (hcz : cz ≠ 0) (hc : cn.toInt = cs.length) (hlt : cs.length < 16) : Ct l Z EL1 nw1 (⟨"java/lang/StringBuilder", "toString", "()Ljava/lang/String;"⟩ : MethodName) jdk_67_method_42_code 1 (some (.object "java/lang/String")) [] ({ frames := 5, cells := 2, slots := 20, locals := 79 } : Room) [.ref ba] [(ba, true, .inl kSB, [.ref vb, .int 0, .int cn]), (vb, true, .inr .byte, (sbv cs).map bt)] (fun v L => ∃ ra rb : Addr, v = some (.ref ra) ∧ L = [(ra, true, .inl kS, [.ref rb, .int 0]), (rb, true, .inr .byte, cs.map bt)]) := by
  refine ct_of pn25 (B := B_rm_tos) (ls := [.val (.ref ba)]) B_rm_tos_ok (ew1 hw) (fun m => by first | (simp [entryFrame, mkF, argsToLocals, Value.category]; done) | rfl) (fun K C => ?_)
  refine wp_new C (Kc := kS) (cells' := 1) (slots' := 4) 0 3 rfl rfl (wd hw 127 rfl) (wd hw 11 rfl) (wd hw 12 rfl) (kS_ok hw) kS_df rfl rfl (by decide) (by decide) (fun ra => ?_)
  refine wp_blk C 1 2 (pc' := 5) (ls' := [.val (.ref ba)]) (st' := [.ref ba, .ref ra, .ref ra]) rfl ?_
  refine wp_init C (al := [.ref ba]) (rest := [.ref ra]) (L1 := []) (W := 1) (cells' := 2) (slots' := 20) 3 8 (rm_ssb l Z a0 hw ra ba vb cs cn cz S1 hcz hc hlt) rfl rfl (wd hw 128 rfl) (wd hw 129 rfl) (wd hw 130 rfl) (wd hw 12 rfl) rfl (by decide) pd17 rfl rfl rfl rfl (by decide) (by decide) rfl rfl rfl (by decide) (by decide) (fun v L' hQ => ?_)
  obtain ⟨rfl, rb, rfl⟩ := hQ
  show Wp K 2 20 [(ra, true, .inl kS, [.ref rb, .int 0]), (rb, true, .inr .byte, cs.map bt)] 8 [.val (.ref ba)] [.ref ra]
  exact wp_retA C 4 rfl rfl rfl (by decide) (by decide) (⟨ra, rb, rfl, rfl⟩)
def foldV (c : Int32) : Int32 := if 65 ≤ c.toInt ∧ c.toInt ≤ 90 then c + 32 else if 192 ≤ c.toInt ∧ c.toInt ≤ 222 ∧ c ≠ 215 then c + 32 else c
def foldI (c : Int) : Int := if 65 ≤ c ∧ c ≤ 90 then c + 32 else if 192 ≤ c ∧ c ≤ 222 ∧ c ≠ 215 then c + 32 else c
theorem i215 {c : Int32} : (c ≠ 215) = (c.toInt ≠ 215) := by
  apply propext; rw [ne_eq, ne_eq, ← Int32.toInt_inj]; exact Iff.rfl
theorem fold_toInt {c : Int32} (h : 0 ≤ c.toInt ∧ c.toInt ≤ 255) : (foldV c).toInt = foldI c.toInt := by
  have e : (c + 32).toInt = c.toInt + 32 := addI rfl rfl (by omega) (by omega)
  unfold foldV foldI
  simp only [i215]
  split
  · exact e
  · split
    · exact e
    · rfl
theorem fold_iff {x z : Int32} (hx : 0 ≤ x.toInt ∧ x.toInt ≤ 255) (hz : 0 ≤ z.toInt ∧ z.toInt ≤ 255) : foldV x = foldV z ↔ foldI x.toInt = foldI z.toInt := by
  rw [← Int32.toInt_inj, fold_toInt hx, fold_toInt hz]
theorem up_tab : ∀ n : Fin 256, ((Int32.ofNat n.val).toInt8.toInt32 &&& 223).toInt = (if n.val / 32 % 2 = 1 then (n.val : Int) - 32 else n.val) := by decide +kernel
theorem up_toInt {c : Int32} (h : 0 ≤ c.toInt ∧ c.toInt ≤ 255) : (c.toInt8.toInt32 &&& 223).toInt = (if c.toInt / 32 % 2 = 1 then c.toInt - 32 else c.toInt) := by
  obtain ⟨n, hn⟩ := Int.eq_ofNat_of_zero_le h.1
  have e : c = Int32.ofNat n := by
    apply Int32.toInt_inj.mp
    rw [hn, Int32.toInt_ofNat_of_lt (by omega)]
  have := up_tab ⟨n, by omega⟩
  rw [hn, e]
  simp only [] at this
  rw [this]
  have : ((n : Int) / 32 % 2 = 1) = (n / 32 % 2 = 1) := by apply propext; omega
  simp only [this]
theorem leafT {X Z U V : Int} (hx : 0 ≤ X ∧ X ≤ 255) (hz : 0 ≤ Z ∧ Z ≤ 255) (hU : U = (if X / 32 % 2 = 1 then X - 32 else X)) (hV : V = (if Z / 32 % 2 = 1 then Z - 32 else Z)) (h1 : 65 ≤ U) (h2 : U ≤ 90 ∨ (192 ≤ U ∧ U ≤ 222 ∧ U ≠ 215)) (h3 : U = V) : foldI X = foldI Z := by
  unfold foldI; omega
theorem leafF {X Z U V : Int} (hx : 0 ≤ X ∧ X ≤ 255) (hz : 0 ≤ Z ∧ Z ≤ 255) (hU : U = (if X / 32 % 2 = 1 then X - 32 else X)) (hV : V = (if Z / 32 % 2 = 1 then Z - 32 else Z)) (hne : X ≠ Z) (h : U < 65 ∨ (90 < U ∧ (U < 192 ∨ 222 < U ∨ U = 215)) ∨ U ≠ V) : foldI X ≠ foldI Z := by
  unfold foldI; omega
theorem cmp00 (n : Int32) : XT.cmpL ((0 : Int32).toInt64) (n.toInt64 - n.toInt64) = 0 := by rw [Int64.sub_self]; decide
theorem pn26 : plainFor (⟨"java/lang/CharacterDataLatin1", "equalsIgnoreCase", "(BB)Z"⟩ : MethodName) = true := by first | (refine plainFor_of_name ?_; simp [plainName, overriddenIn]; done) | (refine plainFor_of_name ?_; decide +kernel) | decide +kernel
def B_rm_eic : Prog := [(0, .iload_n 0, 1), (1, .iload_n 1, 1), (2, .if_icmp .ne 5, 3), (5, .iconst 1, 1), (6, .ireturn, 1), (7, .iload_n 0, 1), (8, .sipush 223, 3), (11, .iand, 1), (12, .istore_n 2, 1), (13, .iload_n 2, 1), (14, .bipush 65, 2), (16, .if_icmp .ge 5, 3), (19, .iconst 0, 1), (20, .ireturn, 1), (21, .iload_n 2, 1), (22, .bipush 90, 2), (24, .if_icmp .le 24, 3), (27, .iload_n 2, 1), (28, .sipush 192, 3), (31, .if_icmp .lt 30, 3), (34, .iload_n 2, 1), (35, .sipush 222, 3), (38, .if_icmp .gt 23, 3), (41, .iload_n 2, 1), (42, .sipush 215, 3), (45, .if_icmp .eq 16, 3), (48, .iload_n 2, 1), (49, .iload_n 1, 1), (50, .sipush 223, 3), (53, .iand, 1), (54, .if_icmp .ne 7, 3), (57, .iconst 1, 1), (58, .goto 4, 3), (61, .iconst 0, 1), (62, .ireturn, 1)]
theorem B_rm_eic_ok : okB jdk_116_method_22_code B_rm_eic = true := by decide +kernel
set_option maxRecDepth 65536 in
set_option maxHeartbeats 40000000 in
theorem rm_eic (l : Launch) (Z : State) (a0 : Array Value) (hw : ∀ d ∈ tables_1, d.before a0 Z = true) (x z pa qa : Int32) (e1 : pa = x.toInt8.toInt32) (e2 : qa = z.toInt8.toInt32) (hx : 0 ≤ x.toInt ∧ x.toInt ≤ 255) (hz : 0 ≤ z.toInt ∧ z.toInt ≤ 255) : Ct l Z EL1 nw1 (⟨"java/lang/CharacterDataLatin1", "equalsIgnoreCase", "(BB)Z"⟩ : MethodName) jdk_116_method_22_code 3 (some .boolean) [] ({ frames := 0, cells := 0, slots := 0, locals := 0 } : Room) [.int pa, .int qa] [] (fun v L => v = some (.int (if foldV x = foldV z then 1 else 0)) ∧ L = []) := by
  refine ct_of pn26 (B := B_rm_eic) (ls := [.val (.int pa), .val (.int qa), .unset]) B_rm_eic_ok (ew1 hw) (fun m => by first | (simp [entryFrame, mkF, argsToLocals, Value.category]; done) | rfl) (fun K C => ?_)
  have hU := up_toInt hx
  rw [← e1] at hU
  have hV := up_toInt hz
  rw [← e2] at hV
  have hne : pa ≠ qa → x.toInt ≠ z.toInt := fun q r => q (by rw [e1, e2, Int32.toInt_inj.mp r])
  generalize hu : (pa &&& 223) = u at hU
  generalize hv : (qa &&& 223) = v at hV
  refine wp_blk C 0 2 (pc' := 2) (ls' := [.val (.int pa), .val (.int qa), .unset]) (st' := [.int qa, .int pa]) rfl ?_
  refine wp_icmp C 2 7 5 rfl rfl rfl (by decide) (fun (h0 : (pa : Int32) ≠ qa) => ?_) (fun (h0 : (pa : Int32) = qa) => ?_)
  · refine wp_blk C 5 4 (pc' := 13) (ls' := [.val (.int pa), .val (.int qa), .val (.int (pa &&& 223))]) (st' := []) rfl ?_
    rw [hu]
    refine wp_blk C 9 2 (pc' := 16) (ls' := [.val (.int pa), .val (.int qa), .val (.int u)]) (st' := [.int 65, .int u]) rfl ?_
    refine wp_icmp C 11 21 19 rfl rfl rfl (by decide) (fun (h1 : (65 : Int32).toInt ≤ (u : Int32).toInt) => ?_) (fun (h1 : (u : Int32).toInt < (65 : Int32).toInt) => ?_)
    · rw [show (65 : Int32).toInt = 65 from rfl] at h1
      refine wp_blk C 14 2 (pc' := 24) (ls' := [.val (.int pa), .val (.int qa), .val (.int u)]) (st' := [.int 90, .int u]) rfl ?_
      refine wp_icmp C 16 48 27 rfl rfl rfl (by decide) (fun (h2 : (u : Int32).toInt ≤ (90 : Int32).toInt) => ?_) (fun (h2 : (90 : Int32).toInt < (u : Int32).toInt) => ?_)
      · rw [show (90 : Int32).toInt = 90 from rfl] at h2
        refine wp_blk C 26 4 (pc' := 54) (ls' := [.val (.int pa), .val (.int qa), .val (.int u)]) (st' := [.int (qa &&& 223), .int u]) rfl ?_
        rw [hv]
        refine wp_icmp C 30 61 57 rfl rfl rfl (by decide) (fun (h6 : (u : Int32) ≠ v) => ?_) (fun (h6 : (u : Int32) = v) => ?_)
        · rw [ne_eq, ← Int32.toInt_inj] at h6
          refine wp_blk C 33 1 (pc' := 62) (ls' := [.val (.int pa), .val (.int qa), .val (.int u)]) (st' := [.int 0]) rfl ?_
          exact wp_retN C (z' := 0) 34 rfl (Or.inl rfl) rfl (by decide) (by decide) (⟨(by rw [if_neg (fun q => leafF hx hz hU hV (hne h0) (by clear hU hV; omega) ((fold_iff hx hz).mp q))]), rfl⟩)
        · rw [← Int32.toInt_inj] at h6
          refine wp_blk C 31 2 (pc' := 62) (ls' := [.val (.int pa), .val (.int qa), .val (.int u)]) (st' := [.int 1]) rfl ?_
          exact wp_retN C (z' := 1) 34 rfl (Or.inl rfl) rfl (by decide) (by decide) (⟨(by rw [if_pos ((fold_iff hx hz).mpr (leafT hx hz hU hV (by clear hU hV; omega) (by clear hU hV; omega) (by clear hU hV; omega)))]), rfl⟩)
      · rw [show (90 : Int32).toInt = 90 from rfl] at h2
        refine wp_blk C 17 2 (pc' := 31) (ls' := [.val (.int pa), .val (.int qa), .val (.int u)]) (st' := [.int 192, .int u]) rfl ?_
        refine wp_icmp C 19 61 34 rfl rfl rfl (by decide) (fun (h3 : (u : Int32).toInt < (192 : Int32).toInt) => ?_) (fun (h3 : (192 : Int32).toInt ≤ (u : Int32).toInt) => ?_)
        · rw [show (192 : Int32).toInt = 192 from rfl] at h3
          refine wp_blk C 33 1 (pc' := 62) (ls' := [.val (.int pa), .val (.int qa), .val (.int u)]) (st' := [.int 0]) rfl ?_
          exact wp_retN C (z' := 0) 34 rfl (Or.inl rfl) rfl (by decide) (by decide) (⟨(by rw [if_neg (fun q => leafF hx hz hU hV (hne h0) (by clear hU hV; omega) ((fold_iff hx hz).mp q))]), rfl⟩)
        · rw [show (192 : Int32).toInt = 192 from rfl] at h3
          refine wp_blk C 20 2 (pc' := 38) (ls' := [.val (.int pa), .val (.int qa), .val (.int u)]) (st' := [.int 222, .int u]) rfl ?_
          refine wp_icmp C 22 61 41 rfl rfl rfl (by decide) (fun (h4 : (222 : Int32).toInt < (u : Int32).toInt) => ?_) (fun (h4 : (u : Int32).toInt ≤ (222 : Int32).toInt) => ?_)
          · rw [show (222 : Int32).toInt = 222 from rfl] at h4
            refine wp_blk C 33 1 (pc' := 62) (ls' := [.val (.int pa), .val (.int qa), .val (.int u)]) (st' := [.int 0]) rfl ?_
            exact wp_retN C (z' := 0) 34 rfl (Or.inl rfl) rfl (by decide) (by decide) (⟨(by rw [if_neg (fun q => leafF hx hz hU hV (hne h0) (by clear hU hV; omega) ((fold_iff hx hz).mp q))]), rfl⟩)
          · rw [show (222 : Int32).toInt = 222 from rfl] at h4
            refine wp_blk C 23 2 (pc' := 45) (ls' := [.val (.int pa), .val (.int qa), .val (.int u)]) (st' := [.int 215, .int u]) rfl ?_
            refine wp_icmp C 25 61 48 rfl rfl rfl (by decide) (fun (h5 : (u : Int32) = 215) => ?_) (fun (h5 : (u : Int32) ≠ 215) => ?_)
            · rw [← Int32.toInt_inj, show (215 : Int32).toInt = 215 from rfl] at h5
              refine wp_blk C 33 1 (pc' := 62) (ls' := [.val (.int pa), .val (.int qa), .val (.int u)]) (st' := [.int 0]) rfl ?_
              exact wp_retN C (z' := 0) 34 rfl (Or.inl rfl) rfl (by decide) (by decide) (⟨(by rw [if_neg (fun q => leafF hx hz hU hV (hne h0) (by clear hU hV; omega) ((fold_iff hx hz).mp q))]), rfl⟩)
            · rw [ne_eq, ← Int32.toInt_inj, show (215 : Int32).toInt = 215 from rfl] at h5
              refine wp_blk C 26 4 (pc' := 54) (ls' := [.val (.int pa), .val (.int qa), .val (.int u)]) (st' := [.int (qa &&& 223), .int u]) rfl ?_
              rw [hv]
              refine wp_icmp C 30 61 57 rfl rfl rfl (by decide) (fun (h6 : (u : Int32) ≠ v) => ?_) (fun (h6 : (u : Int32) = v) => ?_)
              · rw [ne_eq, ← Int32.toInt_inj] at h6
                refine wp_blk C 33 1 (pc' := 62) (ls' := [.val (.int pa), .val (.int qa), .val (.int u)]) (st' := [.int 0]) rfl ?_
                exact wp_retN C (z' := 0) 34 rfl (Or.inl rfl) rfl (by decide) (by decide) (⟨(by rw [if_neg (fun q => leafF hx hz hU hV (hne h0) (by clear hU hV; omega) ((fold_iff hx hz).mp q))]), rfl⟩)
              · rw [← Int32.toInt_inj] at h6
                refine wp_blk C 31 2 (pc' := 62) (ls' := [.val (.int pa), .val (.int qa), .val (.int u)]) (st' := [.int 1]) rfl ?_
                exact wp_retN C (z' := 1) 34 rfl (Or.inl rfl) rfl (by decide) (by decide) (⟨(by rw [if_pos ((fold_iff hx hz).mpr (leafT hx hz hU hV (by clear hU hV; omega) (by clear hU hV; omega) (by clear hU hV; omega)))]), rfl⟩)
    · rw [show (65 : Int32).toInt = 65 from rfl] at h1
      refine wp_blk C 12 1 (pc' := 20) (ls' := [.val (.int pa), .val (.int qa), .val (.int u)]) (st' := [.int 0]) rfl ?_
      exact wp_retN C (z' := 0) 13 rfl (Or.inl rfl) rfl (by decide) (by decide) (⟨(by rw [if_neg (fun q => leafF hx hz hU hV (hne h0) (by clear hU hV; omega) ((fold_iff hx hz).mp q))]), rfl⟩)
  · refine wp_blk C 3 1 (pc' := 6) (ls' := [.val (.int pa), .val (.int qa), .unset]) (st' := [.int 1]) rfl ?_
    exact wp_retN C (z' := 1) 4 rfl (Or.inl rfl) rfl (by decide) (by decide) (⟨by rw [if_pos (by rw [bt_inj hx hz (by rw [← e1, ← e2]; exact h0)])], rfl⟩)
theorem pn27 : plainFor (⟨"java/lang/StringLatin1", "regionMatchesCI", "([BI[BII)Z"⟩ : MethodName) = true := by first | (refine plainFor_of_name ?_; simp [plainName, overriddenIn]; done) | (refine plainFor_of_name ?_; decide +kernel) | decide +kernel
theorem pd18 : parseMethodDescriptor "(BB)Z" = some ⟨[.byte, .byte], (some .boolean)⟩ := by decide +kernel
def B_rm_rci : Prog := [(0, .iload_n 1, 1), (1, .iload 4, 2), (3, .iadd, 1), (4, .istore 5, 2), (6, .iload_n 1, 1), (7, .iload 5, 2), (9, .if_icmp .ge 34, 3), (12, .aload_n 0, 1), (13, .iload_n 1, 1), (14, .iinc 1 1, 3), (17, .baload, 1), (18, .istore 6, 2), (20, .aload_n 2, 1), (21, .iload_n 3, 1), (22, .iinc 3 1, 3), (25, .baload, 1), (26, .istore 7, 2), (28, .iload 6, 2), (30, .iload 7, 2), (32, .invokestatic 153, 3), (35, .ifCond .eq 6, 3), (38, .goto (-32), 3), (41, .iconst 0, 1), (42, .ireturn, 1), (43, .iconst 1, 1), (44, .ireturn, 1)]
theorem B_rm_rci_ok : okB jdk_43_method_30_code B_rm_rci = true := by decide +kernel
set_option maxRecDepth 65536 in
set_option maxHeartbeats 40000000 in
theorem rm_rci (l : Launch) (Z : State) (a0 : Array Value) (hw : ∀ d ∈ tables_1, d.before a0 Z = true) (b e : Addr) (u u2 : Bool) (cs ds : List Int32) (n : Int32) (hlc : Lat cs) (hld : Lat ds) (hll : cs.length = ds.length) (hn : n.toInt = cs.length) : Ct l Z EL1 nw1 (⟨"java/lang/StringLatin1", "regionMatchesCI", "([BI[BII)Z"⟩ : MethodName) jdk_43_method_30_code 8 (some .boolean) [] ({ frames := 1, cells := 0, slots := 0, locals := 14 } : Room) [.ref b, .int 0, .ref e, .int 0, .int n] [(b, u, .inr .byte, cs.map bt), (e, u2, .inr .byte, ds.map bt)] (fun v L => v = some (.int (if cs.map foldV = ds.map foldV then 1 else 0)) ∧ L = [(b, u, .inr .byte, cs.map bt), (e, u2, .inr .byte, ds.map bt)]) := by
  refine ct_of pn27 (B := B_rm_rci) (ls := [.val (.ref b), .val (.int 0), .val (.ref e), .val (.int 0), .val (.int n), .unset, .unset, .unset]) B_rm_rci_ok (ew1 hw) (fun m => by first | (simp [entryFrame, mkF, argsToLocals, Value.category]; done) | rfl) (fun K C => ?_)
  have rn := rng32 n
  have loop : ∀ (m : Nat) (d1 d2 r1 r2 : List Int32) (i : Int32) (s6 s7 : Slot), r1.length = m → r2.length = m → d1 ++ r1 = cs → d2 ++ r2 = ds → d1.map foldV = d2.map foldV → i.toInt = d1.length → ((s6 = .unset ∧ s7 = .unset) ∨ ∃ q r : Int32, s6 = .val (.int q) ∧ s7 = .val (.int r)) → Wp K 0 0 [(b, u, .inr .byte, cs.map bt), (e, u2, .inr .byte, ds.map bt)] 6 [.val (.ref b), .val (.int i), .val (.ref e), .val (.int i), .val (.int n), .val (.int n), s6, s7] [] := by
    intro m
    induction m with
    | zero =>
      intro d1 d2 r1 r2 i s6 s7 hm1 hm2 h1 h2 hf hi ho
      obtain rfl := List.length_eq_zero_iff.mp hm1
      obtain rfl := List.length_eq_zero_iff.mp hm2
      rw [List.append_nil] at h1 h2
      rcases ho with ⟨rfl, rfl⟩ | ⟨q, r, rfl, rfl⟩
      · refine wp_blk C 4 2 (pc' := 9) (ls' := [.val (.ref b), .val (.int i), .val (.ref e), .val (.int i), .val (.int n), .val (.int n), .unset, .unset]) (st' := [.int n, .int i]) rfl ?_
        refine wp_icmp C 6 43 12 rfl rfl rfl (by decide) (fun _ => ?_) (fun h => absurd h (fun q : i.toInt < n.toInt => by rw [hi, hn, ← h1] at q; omega))
        refine wp_blk C 24 1 (pc' := 44) (ls' := [.val (.ref b), .val (.int i), .val (.ref e), .val (.int i), .val (.int n), .val (.int n), .unset, .unset]) (st' := [.int 1]) rfl ?_
        exact wp_retN C (z' := 1) 25 rfl (Or.inl rfl) rfl (by decide) (by decide) (⟨by rw [if_pos (by rw [← h1, ← h2]; exact hf)], rfl⟩)
      · refine wp_blk C 4 2 (pc' := 9) (ls' := [.val (.ref b), .val (.int i), .val (.ref e), .val (.int i), .val (.int n), .val (.int n), .val (.int q), .val (.int r)]) (st' := [.int n, .int i]) rfl ?_
        refine wp_icmp C 6 43 12 rfl rfl rfl (by decide) (fun _ => ?_) (fun h => absurd h (fun q : i.toInt < n.toInt => by rw [hi, hn, ← h1] at q; omega))
        refine wp_blk C 24 1 (pc' := 44) (ls' := [.val (.ref b), .val (.int i), .val (.ref e), .val (.int i), .val (.int n), .val (.int n), .val (.int q), .val (.int r)]) (st' := [.int 1]) rfl ?_
        exact wp_retN C (z' := 1) 25 rfl (Or.inl rfl) rfl (by decide) (by decide) (⟨by rw [if_pos (by rw [← h1, ← h2]; exact hf)], rfl⟩)
    | succ m ih =>
      intro d1 d2 r1 r2 i s6 s7 hm1 hm2 h1 h2 hf hi ho
      obtain ⟨x, r1, rfl⟩ : ∃ x r, r1 = x :: r := by cases r1 with | nil => simp at hm1 | cons x r => exact ⟨x, r, rfl⟩
      obtain ⟨z, r2, rfl⟩ : ∃ z r, r2 = z :: r := by cases r2 with | nil => simp at hm2 | cons x r => exact ⟨x, r, rfl⟩
      have hm1 : r1.length = m := by simpa using hm1
      have hm2 : r2.length = m := by simpa using hm2
      have hx := hlc x (by rw [← h1]; simp)
      have hz := hld z (by rw [← h2]; simp)
      have hlen : d1.length + (r1.length + 1) = cs.length := by rw [← h1]; simp
      have hdd : d1.length = d2.length := by have := congrArg List.length hf; simpa using this
      rcases ho with ⟨rfl, rfl⟩ | ⟨q, r, rfl, rfl⟩
      · refine wp_blk C 4 2 (pc' := 9) (ls' := [.val (.ref b), .val (.int i), .val (.ref e), .val (.int i), .val (.int n), .val (.int n), .unset, .unset]) (st' := [.int n, .int i]) rfl ?_
        refine wp_icmp C 6 43 12 rfl rfl rfl (by decide) (fun h => absurd h (fun q : n.toInt ≤ i.toInt => by omega)) (fun _ => ?_)
        refine wp_blk C 7 3 (pc' := 17) (ls' := [.val (.ref b), .val (.int (i + 1)), .val (.ref e), .val (.int i), .val (.int n), .val (.int n), .unset, .unset]) (st' := [.int i, .ref b]) rfl ?_
        obtain ⟨i1, hi1⟩ : ∃ nn0 : Int32, nn0 = i + 1 := ⟨_, rfl⟩
        rw [← hi1]
        have Hi1 : i1.toInt = (d1.length + 1 : Nat) := by rw [hi1]; exact addI hi one32
        refine wp_aload C (n := d1.length) (v := .int x.toInt8.toInt32) 10 18 0 rfl rfl (Or.inr (Or.inr (Or.inr (Or.inl ⟨rfl, rfl⟩)))) rfl hi (by rw [← h1]; simp) ?_
        refine wp_blk C 11 4 (pc' := 25) (ls' := [.val (.ref b), .val (.int i1), .val (.ref e), .val (.int (i + 1)), .val (.int n), .val (.int n), .val (.int x.toInt8.toInt32), .unset]) (st' := [.int i, .ref e]) rfl ?_
        rw [← hi1]
        refine wp_aload C (n := d1.length) (v := .int z.toInt8.toInt32) 15 26 1 rfl rfl (Or.inr (Or.inr (Or.inr (Or.inl ⟨rfl, rfl⟩)))) rfl hi (by rw [hdd, ← h2]; simp) ?_
        refine wp_blk C 16 3 (pc' := 32) (ls' := [.val (.ref b), .val (.int i1), .val (.ref e), .val (.int i1), .val (.int n), .val (.int n), .val (.int x.toInt8.toInt32), .val (.int z.toInt8.toInt32)]) (st' := [.int z.toInt8.toInt32, .int x.toInt8.toInt32]) rfl ?_
        refine wp_static C (al := [.int x.toInt8.toInt32, .int z.toInt8.toInt32]) (rest := []) (L1 := [(b, u, .inr .byte, cs.map bt), (e, u2, .inr .byte, ds.map bt)]) (W := 0) (cells' := 0) (slots' := 0) 19 35 (rm_eic l Z a0 hw x z _ _ rfl rfl hx hz) rfl rfl (wd hw 192 rfl) (wd hw 193 rfl) (wd hw 195 rfl) (wd hw 194 rfl) (by decide) pd18 rfl rfl rfl rfl (by decide) (by decide) rfl rfl rfl (by decide) (by decide) (fun v L' hQ => ?_)
        obtain ⟨rfl, rfl⟩ := hQ
        show Wp K 0 0 [(b, u, .inr .byte, cs.map bt), (e, u2, .inr .byte, ds.map bt)] 35 [.val (.ref b), .val (.int i1), .val (.ref e), .val (.int i1), .val (.int n), .val (.int n), .val (.int x.toInt8.toInt32), .val (.int z.toInt8.toInt32)] [.int (if foldV x = foldV z then 1 else 0)]
        by_cases hq : foldV x = foldV z
        · rw [if_pos hq]
          refine wp_ifz C 20 41 38 rfl rfl rfl (by decide) (fun h => absurd h (fun q : (1 : Int32) = 0 => absurd q (by decide))) (fun _ => ?_)
          refine wp_blk C 21 1 (pc' := 6) (ls' := [.val (.ref b), .val (.int i1), .val (.ref e), .val (.int i1), .val (.int n), .val (.int n), .val (.int x.toInt8.toInt32), .val (.int z.toInt8.toInt32)]) (st' := []) rfl ?_
          exact ih (d1 ++ [x]) (d2 ++ [z]) r1 r2 i1 _ _ hm1 hm2 (by rw [← h1]; simp) (by rw [← h2]; simp) (by simp [hf, hq]) (by rw [Hi1]; simp) (Or.inr ⟨_, _, rfl, rfl⟩)
        · rw [if_neg hq]
          refine wp_ifz C 20 41 38 rfl rfl rfl (by decide) (fun _ => ?_) (fun h => absurd h (fun q : (0 : Int32) ≠ 0 => absurd q (by decide)))
          refine wp_blk C 22 1 (pc' := 42) (ls' := [.val (.ref b), .val (.int i1), .val (.ref e), .val (.int i1), .val (.int n), .val (.int n), .val (.int x.toInt8.toInt32), .val (.int z.toInt8.toInt32)]) (st' := [.int 0]) rfl ?_
          exact wp_retN C (z' := 0) 23 rfl (Or.inl rfl) rfl (by decide) (by decide) (⟨by rw [if_neg (fun q => hq (by rw [← h1, ← h2, List.map_append, List.map_append, hf] at q; have := List.append_cancel_left q; simp at this; exact this.1))], rfl⟩)
      · refine wp_blk C 4 2 (pc' := 9) (ls' := [.val (.ref b), .val (.int i), .val (.ref e), .val (.int i), .val (.int n), .val (.int n), .val (.int q), .val (.int r)]) (st' := [.int n, .int i]) rfl ?_
        refine wp_icmp C 6 43 12 rfl rfl rfl (by decide) (fun h => absurd h (fun q : n.toInt ≤ i.toInt => by omega)) (fun _ => ?_)
        refine wp_blk C 7 3 (pc' := 17) (ls' := [.val (.ref b), .val (.int (i + 1)), .val (.ref e), .val (.int i), .val (.int n), .val (.int n), .val (.int q), .val (.int r)]) (st' := [.int i, .ref b]) rfl ?_
        obtain ⟨i1, hi1⟩ : ∃ nn0 : Int32, nn0 = i + 1 := ⟨_, rfl⟩
        rw [← hi1]
        have Hi1 : i1.toInt = (d1.length + 1 : Nat) := by rw [hi1]; exact addI hi one32
        refine wp_aload C (n := d1.length) (v := .int x.toInt8.toInt32) 10 18 0 rfl rfl (Or.inr (Or.inr (Or.inr (Or.inl ⟨rfl, rfl⟩)))) rfl hi (by rw [← h1]; simp) ?_
        refine wp_blk C 11 4 (pc' := 25) (ls' := [.val (.ref b), .val (.int i1), .val (.ref e), .val (.int (i + 1)), .val (.int n), .val (.int n), .val (.int x.toInt8.toInt32), .val (.int r)]) (st' := [.int i, .ref e]) rfl ?_
        rw [← hi1]
        refine wp_aload C (n := d1.length) (v := .int z.toInt8.toInt32) 15 26 1 rfl rfl (Or.inr (Or.inr (Or.inr (Or.inl ⟨rfl, rfl⟩)))) rfl hi (by rw [hdd, ← h2]; simp) ?_
        refine wp_blk C 16 3 (pc' := 32) (ls' := [.val (.ref b), .val (.int i1), .val (.ref e), .val (.int i1), .val (.int n), .val (.int n), .val (.int x.toInt8.toInt32), .val (.int z.toInt8.toInt32)]) (st' := [.int z.toInt8.toInt32, .int x.toInt8.toInt32]) rfl ?_
        refine wp_static C (al := [.int x.toInt8.toInt32, .int z.toInt8.toInt32]) (rest := []) (L1 := [(b, u, .inr .byte, cs.map bt), (e, u2, .inr .byte, ds.map bt)]) (W := 0) (cells' := 0) (slots' := 0) 19 35 (rm_eic l Z a0 hw x z _ _ rfl rfl hx hz) rfl rfl (wd hw 192 rfl) (wd hw 193 rfl) (wd hw 195 rfl) (wd hw 194 rfl) (by decide) pd18 rfl rfl rfl rfl (by decide) (by decide) rfl rfl rfl (by decide) (by decide) (fun v L' hQ => ?_)
        obtain ⟨rfl, rfl⟩ := hQ
        show Wp K 0 0 [(b, u, .inr .byte, cs.map bt), (e, u2, .inr .byte, ds.map bt)] 35 [.val (.ref b), .val (.int i1), .val (.ref e), .val (.int i1), .val (.int n), .val (.int n), .val (.int x.toInt8.toInt32), .val (.int z.toInt8.toInt32)] [.int (if foldV x = foldV z then 1 else 0)]
        by_cases hq : foldV x = foldV z
        · rw [if_pos hq]
          refine wp_ifz C 20 41 38 rfl rfl rfl (by decide) (fun h => absurd h (fun q : (1 : Int32) = 0 => absurd q (by decide))) (fun _ => ?_)
          refine wp_blk C 21 1 (pc' := 6) (ls' := [.val (.ref b), .val (.int i1), .val (.ref e), .val (.int i1), .val (.int n), .val (.int n), .val (.int x.toInt8.toInt32), .val (.int z.toInt8.toInt32)]) (st' := []) rfl ?_
          exact ih (d1 ++ [x]) (d2 ++ [z]) r1 r2 i1 _ _ hm1 hm2 (by rw [← h1]; simp) (by rw [← h2]; simp) (by simp [hf, hq]) (by rw [Hi1]; simp) (Or.inr ⟨_, _, rfl, rfl⟩)
        · rw [if_neg hq]
          refine wp_ifz C 20 41 38 rfl rfl rfl (by decide) (fun _ => ?_) (fun h => absurd h (fun q : (0 : Int32) ≠ 0 => absurd q (by decide)))
          refine wp_blk C 22 1 (pc' := 42) (ls' := [.val (.ref b), .val (.int i1), .val (.ref e), .val (.int i1), .val (.int n), .val (.int n), .val (.int x.toInt8.toInt32), .val (.int z.toInt8.toInt32)]) (st' := [.int 0]) rfl ?_
          exact wp_retN C (z' := 0) 23 rfl (Or.inl rfl) rfl (by decide) (by decide) (⟨by rw [if_neg (fun q => hq (by rw [← h1, ← h2, List.map_append, List.map_append, hf] at q; have := List.append_cancel_left q; simp at this; exact this.1))], rfl⟩)
  refine wp_blk C 0 4 (pc' := 6) (ls' := [.val (.ref b), .val (.int 0), .val (.ref e), .val (.int 0), .val (.int n), .val (.int (0 + n)), .unset, .unset]) (st' := []) rfl ?_
  rw [Int32.zero_add]
  exact loop cs.length [] [] cs ds 0 _ _ rfl hll.symm rfl rfl rfl rfl (Or.inl ⟨rfl, rfl⟩)
theorem pn28 : plainFor (⟨"java/lang/String", "regionMatches", "(ZILjava/lang/String;II)Z"⟩ : MethodName) = true := by first | (refine plainFor_of_name ?_; simp [plainName, overriddenIn]; done) | (refine plainFor_of_name ?_; decide +kernel) | decide +kernel
theorem pd19 : parseMethodDescriptor "([BI[BII)Z" = some ⟨[(.array .byte), .int, (.array .byte), .int, .int], (some .boolean)⟩ := by decide +kernel
def B_rm_rgm : Prog := [(0, .iload_n 1, 1), (1, .ifCond .ne 14, 3), (15, .iload 4, 2), (17, .ifCond .lt 38, 3), (20, .iload_n 2, 1), (21, .ifCond .lt 34, 3), (24, .iload_n 2, 1), (25, .i2l, 1), (26, .aload_n 0, 1), (27, .invokevirtual 505, 3), (30, .i2l, 1), (31, .iload 5, 2), (33, .i2l, 1), (34, .lsub, 1), (35, .lcmp, 1), (36, .ifCond .gt 19, 3), (39, .iload 4, 2), (41, .i2l, 1), (42, .aload_n 3, 1), (43, .invokevirtual 505, 3), (46, .i2l, 1), (47, .iload 5, 2), (49, .i2l, 1), (50, .lsub, 1), (51, .lcmp, 1), (52, .ifCond .le 5, 3), (57, .aload_n 0, 1), (58, .getfield 9, 3), (61, .astore 6, 2), (63, .aload_n 3, 1), (64, .getfield 9, 3), (67, .astore 7, 2), (69, .aload_n 0, 1), (70, .invokevirtual 335, 3), (73, .istore 8, 2), (75, .iload 8, 2), (77, .aload_n 3, 1), (78, .invokevirtual 335, 3), (81, .if_icmp .ne 36, 3), (84, .iload 8, 2), (86, .ifCond .ne 18, 3), (89, .aload 6, 2), (91, .iload_n 2, 1), (92, .aload 7, 2), (94, .iload 4, 2), (96, .iload 5, 2), (98, .invokestatic 613, 3), (101, .goto 15, 3), (116, .ireturn, 1)]
theorem B_rm_rgm_ok : okB jdk_42_method_74_code B_rm_rgm = true := by decide +kernel
set_option maxRecDepth 65536 in
set_option maxHeartbeats 40000000 in
theorem rm_rgm (l : Launch) (Z : State) (a0 : Array Value) (hw : ∀ d ∈ tables_1, d.before a0 Z = true) (sa b ta e : Addr) (w u w2 u2 : Bool) (cs ds : List Int32) (n : Int32) (cz : Int32) (S1 : Sta Z Z.heap "java/lang/String" "COMPACT_STRINGS" "Z" (.int cz)) (hcz : cz ≠ 0) (hlc : Lat cs) (hld : Lat ds) (hll : cs.length = ds.length) (hn : n.toInt = cs.length) (hn2 : n.toInt = ds.length) : Ct l Z EL1 nw1 (⟨"java/lang/String", "regionMatches", "(ZILjava/lang/String;II)Z"⟩ : MethodName) jdk_42_method_74_code 9 (some .boolean) [] ({ frames := 2, cells := 0, slots := 0, locals := 33 } : Room) [.ref sa, .int 1, .int 0, .ref ta, .int 0, .int n] [(sa, w, .inl kS, [.ref b, .int 0]), (b, u, .inr .byte, cs.map bt), (ta, w2, .inl kS, [.ref e, .int 0]), (e, u2, .inr .byte, ds.map bt)] (fun v L => v = some (.int (if cs.map foldV = ds.map foldV then 1 else 0)) ∧ L = [(sa, w, .inl kS, [.ref b, .int 0]), (b, u, .inr .byte, cs.map bt), (ta, w2, .inl kS, [.ref e, .int 0]), (e, u2, .inr .byte, ds.map bt)]) := by
  refine ct_of pn28 (B := B_rm_rgm) (ls := [.val (.ref sa), .val (.int 1), .val (.int 0), .val (.ref ta), .val (.int 0), .val (.int n), .unset, .unset, .unset]) B_rm_rgm_ok (ew1 hw) (fun m => by first | (simp [entryFrame, mkF, argsToLocals, Value.category]; done) | rfl) (fun K C => ?_)
  refine wp_blk C 0 1 (pc' := 1) (ls' := [.val (.ref sa), .val (.int 1), .val (.int 0), .val (.ref ta), .val (.int 0), .val (.int n), .unset, .unset, .unset]) (st' := [.int 1]) rfl ?_
  refine wp_ifz C 1 15 4 rfl rfl rfl (by decide) (fun _ => ?_) (fun h => absurd h (fun q : (1 : Int32) = 0 => absurd q (by decide)))
  refine wp_blk C 2 1 (pc' := 17) (ls' := [.val (.ref sa), .val (.int 1), .val (.int 0), .val (.ref ta), .val (.int 0), .val (.int n), .unset, .unset, .unset]) (st' := [.int 0]) rfl ?_
  refine wp_ifz C 3 55 20 rfl rfl rfl (by decide) (fun h => absurd h (fun q : (0 : Int32).toInt < (0 : Int32).toInt => absurd q (by decide))) (fun _ => ?_)
  refine wp_blk C 4 1 (pc' := 21) (ls' := [.val (.ref sa), .val (.int 1), .val (.int 0), .val (.ref ta), .val (.int 0), .val (.int n), .unset, .unset, .unset]) (st' := [.int 0]) rfl ?_
  refine wp_ifz C 5 55 24 rfl rfl rfl (by decide) (fun h => absurd h (fun q : (0 : Int32).toInt < (0 : Int32).toInt => absurd q (by decide))) (fun _ => ?_)
  refine wp_blk C 6 3 (pc' := 27) (ls' := [.val (.ref sa), .val (.int 1), .val (.int 0), .val (.ref ta), .val (.int 0), .val (.int n), .unset, .unset, .unset]) (st' := [.ref sa, .long ((0 : Int32).toInt64)]) rfl ?_
  refine wp_virtual C (al := []) (rest := [.long ((0 : Int32).toInt64)]) (L1 := [(ta, w2, .inl kS, [.ref e, .int 0]), (e, u2, .inr .byte, ds.map bt)]) (W := 2) (cells' := 0) (slots' := 0) 9 30 0 (rm_len l Z a0 hw sa b w u cs n cz S1 hcz hn) rfl rfl rfl (wd hw 172 rfl) (wd hw 84 rfl) (nf_self (wd hw 86 rfl)) (wd hw 86 rfl) (wd hw 85 rfl) (wd hw 87 rfl) (wd hw 12 rfl) (by decide) pd11 rfl rfl rfl rfl (by decide) (by decide) rfl rfl rfl (by decide) (by decide) (fun v L' hQ => ?_)
  obtain ⟨rfl, rfl⟩ := hQ
  show Wp K 0 0 [(sa, w, .inl kS, [.ref b, .int 0]), (b, u, .inr .byte, cs.map bt), (ta, w2, .inl kS, [.ref e, .int 0]), (e, u2, .inr .byte, ds.map bt)] 30 [.val (.ref sa), .val (.int 1), .val (.int 0), .val (.ref ta), .val (.int 0), .val (.int n), .unset, .unset, .unset] [.int n, .long ((0 : Int32).toInt64)]
  refine wp_blk C 10 5 (pc' := 36) (ls' := [.val (.ref sa), .val (.int 1), .val (.int 0), .val (.ref ta), .val (.int 0), .val (.int n), .unset, .unset, .unset]) (st' := [.int (XT.cmpL ((0 : Int32).toInt64) (((n : Int32).toInt64) - ((n : Int32).toInt64)))]) rfl ?_
  rw [cmp00]
  refine wp_ifz C 15 55 39 rfl rfl rfl (by decide) (fun h => absurd h (fun q : (0 : Int32).toInt < (0 : Int32).toInt => absurd q (by decide))) (fun _ => ?_)
  refine wp_blk C 16 3 (pc' := 43) (ls' := [.val (.ref sa), .val (.int 1), .val (.int 0), .val (.ref ta), .val (.int 0), .val (.int n), .unset, .unset, .unset]) (st' := [.ref ta, .long ((0 : Int32).toInt64)]) rfl ?_
  refine wp_front C 3 (L' := [(e, u2, .inr .byte, ds.map bt), (sa, w, .inl kS, [.ref b, .int 0]), (b, u, .inr .byte, cs.map bt), (ta, w2, .inl kS, [.ref e, .int 0])]) rfl ?_
  refine wp_front C 3 (L' := [(ta, w2, .inl kS, [.ref e, .int 0]), (e, u2, .inr .byte, ds.map bt), (sa, w, .inl kS, [.ref b, .int 0]), (b, u, .inr .byte, cs.map bt)]) rfl ?_
  refine wp_virtual C (al := []) (rest := [.long ((0 : Int32).toInt64)]) (L1 := [(sa, w, .inl kS, [.ref b, .int 0]), (b, u, .inr .byte, cs.map bt)]) (W := 2) (cells' := 0) (slots' := 0) 19 46 0 (rm_len l Z a0 hw ta e w2 u2 ds n cz S1 hcz hn2) rfl rfl rfl (wd hw 172 rfl) (wd hw 84 rfl) (nf_self (wd hw 86 rfl)) (wd hw 86 rfl) (wd hw 85 rfl) (wd hw 87 rfl) (wd hw 12 rfl) (by decide) pd11 rfl rfl rfl rfl (by decide) (by decide) rfl rfl rfl (by decide) (by decide) (fun v L' hQ => ?_)
  obtain ⟨rfl, rfl⟩ := hQ
  show Wp K 0 0 [(ta, w2, .inl kS, [.ref e, .int 0]), (e, u2, .inr .byte, ds.map bt), (sa, w, .inl kS, [.ref b, .int 0]), (b, u, .inr .byte, cs.map bt)] 46 [.val (.ref sa), .val (.int 1), .val (.int 0), .val (.ref ta), .val (.int 0), .val (.int n), .unset, .unset, .unset] [.int n, .long ((0 : Int32).toInt64)]
  refine wp_blk C 20 5 (pc' := 52) (ls' := [.val (.ref sa), .val (.int 1), .val (.int 0), .val (.ref ta), .val (.int 0), .val (.int n), .unset, .unset, .unset]) (st' := [.int (XT.cmpL ((0 : Int32).toInt64) (((n : Int32).toInt64) - ((n : Int32).toInt64)))]) rfl ?_
  rw [cmp00]
  refine wp_ifz C 25 57 55 rfl rfl rfl (by decide) (fun _ => ?_) (fun h => absurd h (fun q : (0 : Int32).toInt < (0 : Int32).toInt => absurd q (by decide)))
  refine wp_blk C 26 1 (pc' := 58) (ls' := [.val (.ref sa), .val (.int 1), .val (.int 0), .val (.ref ta), .val (.int 0), .val (.int n), .unset, .unset, .unset]) (st' := [.ref sa]) rfl ?_
  refine wp_get C 27 61 2 0 rfl rfl (wd hw 30 rfl) Via.refl rfl rfl rfl ?_
  refine wp_blk C 28 2 (pc' := 64) (ls' := [.val (.ref sa), .val (.int 1), .val (.int 0), .val (.ref ta), .val (.int 0), .val (.int n), .val (.ref b), .unset, .unset]) (st' := [.ref ta]) rfl ?_
  refine wp_get C 30 67 0 0 rfl rfl (wd hw 30 rfl) Via.refl rfl rfl rfl ?_
  refine wp_blk C 31 2 (pc' := 70) (ls' := [.val (.ref sa), .val (.int 1), .val (.int 0), .val (.ref ta), .val (.int 0), .val (.int n), .val (.ref b), .val (.ref e), .unset]) (st' := [.ref sa]) rfl ?_
  refine wp_front C 2 (L' := [(sa, w, .inl kS, [.ref b, .int 0]), (ta, w2, .inl kS, [.ref e, .int 0]), (e, u2, .inr .byte, ds.map bt), (b, u, .inr .byte, cs.map bt)]) rfl ?_
  refine wp_virtual C (al := []) (rest := []) (L1 := [(ta, w2, .inl kS, [.ref e, .int 0]), (e, u2, .inr .byte, ds.map bt), (b, u, .inr .byte, cs.map bt)]) (W := 0) (cells' := 0) (slots' := 0) 33 73 0 (rm_sco l Z a0 hw sa b w cz S1 hcz) rfl rfl rfl (wd hw 88 rfl) (wd hw 89 rfl) (nf_self (wd hw 91 rfl)) (wd hw 91 rfl) (wd hw 90 rfl) (wd hw 92 rfl) (wd hw 12 rfl) (by decide) pd4 rfl rfl rfl rfl (by decide) (by decide) rfl rfl rfl (by decide) (by decide) (fun v L' hQ => ?_)
  obtain ⟨rfl, rfl⟩ := hQ
  show Wp K 0 0 [(sa, w, .inl kS, [.ref b, .int 0]), (ta, w2, .inl kS, [.ref e, .int 0]), (e, u2, .inr .byte, ds.map bt), (b, u, .inr .byte, cs.map bt)] 73 [.val (.ref sa), .val (.int 1), .val (.int 0), .val (.ref ta), .val (.int 0), .val (.int n), .val (.ref b), .val (.ref e), .unset] [.int 0]
  refine wp_blk C 34 3 (pc' := 78) (ls' := [.val (.ref sa), .val (.int 1), .val (.int 0), .val (.ref ta), .val (.int 0), .val (.int n), .val (.ref b), .val (.ref e), .val (.int 0)]) (st' := [.ref ta, .int 0]) rfl ?_
  refine wp_front C 1 (L' := [(ta, w2, .inl kS, [.ref e, .int 0]), (sa, w, .inl kS, [.ref b, .int 0]), (e, u2, .inr .byte, ds.map bt), (b, u, .inr .byte, cs.map bt)]) rfl ?_
  refine wp_virtual C (al := []) (rest := [.int 0]) (L1 := [(sa, w, .inl kS, [.ref b, .int 0]), (e, u2, .inr .byte, ds.map bt), (b, u, .inr .byte, cs.map bt)]) (W := 1) (cells' := 0) (slots' := 0) 37 81 0 (rm_sco l Z a0 hw ta e w2 cz S1 hcz) rfl rfl rfl (wd hw 88 rfl) (wd hw 89 rfl) (nf_self (wd hw 91 rfl)) (wd hw 91 rfl) (wd hw 90 rfl) (wd hw 92 rfl) (wd hw 12 rfl) (by decide) pd4 rfl rfl rfl rfl (by decide) (by decide) rfl rfl rfl (by decide) (by decide) (fun v L' hQ => ?_)
  obtain ⟨rfl, rfl⟩ := hQ
  show Wp K 0 0 [(ta, w2, .inl kS, [.ref e, .int 0]), (sa, w, .inl kS, [.ref b, .int 0]), (e, u2, .inr .byte, ds.map bt), (b, u, .inr .byte, cs.map bt)] 81 [.val (.ref sa), .val (.int 1), .val (.int 0), .val (.ref ta), .val (.int 0), .val (.int n), .val (.ref b), .val (.ref e), .val (.int 0)] [.int 0, .int 0]
  refine wp_icmp C 38 117 84 rfl rfl rfl (by decide) (fun h => absurd h (fun q : (0 : Int32) ≠ 0 => absurd q (by decide))) (fun _ => ?_)
  refine wp_blk C 39 1 (pc' := 86) (ls' := [.val (.ref sa), .val (.int 1), .val (.int 0), .val (.ref ta), .val (.int 0), .val (.int n), .val (.ref b), .val (.ref e), .val (.int 0)]) (st' := [.int 0]) rfl ?_
  refine wp_ifz C 40 104 89 rfl rfl rfl (by decide) (fun h => absurd h (fun q : (0 : Int32) ≠ 0 => absurd q (by decide))) (fun _ => ?_)
  refine wp_blk C 41 5 (pc' := 98) (ls' := [.val (.ref sa), .val (.int 1), .val (.int 0), .val (.ref ta), .val (.int 0), .val (.int n), .val (.ref b), .val (.ref e), .val (.int 0)]) (st' := [.int n, .int 0, .ref e, .int 0, .ref b]) rfl ?_
  refine wp_front C 2 (L' := [(e, u2, .inr .byte, ds.map bt), (ta, w2, .inl kS, [.ref e, .int 0]), (sa, w, .inl kS, [.ref b, .int 0]), (b, u, .inr .byte, cs.map bt)]) rfl ?_
  refine wp_front C 3 (L' := [(b, u, .inr .byte, cs.map bt), (e, u2, .inr .byte, ds.map bt), (ta, w2, .inl kS, [.ref e, .int 0]), (sa, w, .inl kS, [.ref b, .int 0])]) rfl ?_
  refine wp_static C (al := [.ref b, .int 0, .ref e, .int 0, .int n]) (rest := []) (L1 := [(ta, w2, .inl kS, [.ref e, .int 0]), (sa, w, .inl kS, [.ref b, .int 0])]) (W := 0) (cells' := 0) (slots' := 0) 46 101 (rm_rci l Z a0 hw b e u u2 cs ds n hlc hld hll hn) rfl rfl (wd hw 188 rfl) (wd hw 189 rfl) (wd hw 191 rfl) (wd hw 190 rfl) (by decide) pd19 rfl rfl rfl rfl (by decide) (by decide) rfl rfl rfl (by decide) (by decide) (fun v L' hQ => ?_)
  obtain ⟨rfl, rfl⟩ := hQ
  show Wp K 0 0 [(b, u, .inr .byte, cs.map bt), (e, u2, .inr .byte, ds.map bt), (ta, w2, .inl kS, [.ref e, .int 0]), (sa, w, .inl kS, [.ref b, .int 0])] 101 [.val (.ref sa), .val (.int 1), .val (.int 0), .val (.ref ta), .val (.int 0), .val (.int n), .val (.ref b), .val (.ref e), .val (.int 0)] [.int (if cs.map foldV = ds.map foldV then 1 else 0)]
  refine wp_blk C 47 1 (pc' := 116) (ls' := [.val (.ref sa), .val (.int 1), .val (.int 0), .val (.ref ta), .val (.int 0), .val (.int n), .val (.ref b), .val (.ref e), .val (.int 0)]) (st' := [.int (if cs.map foldV = ds.map foldV then 1 else 0)]) rfl ?_
  refine wp_front C 1 (L' := [(e, u2, .inr .byte, ds.map bt), (b, u, .inr .byte, cs.map bt), (ta, w2, .inl kS, [.ref e, .int 0]), (sa, w, .inl kS, [.ref b, .int 0])]) rfl ?_
  refine wp_front C 2 (L' := [(ta, w2, .inl kS, [.ref e, .int 0]), (e, u2, .inr .byte, ds.map bt), (b, u, .inr .byte, cs.map bt), (sa, w, .inl kS, [.ref b, .int 0])]) rfl ?_
  refine wp_front C 2 (L' := [(b, u, .inr .byte, cs.map bt), (ta, w2, .inl kS, [.ref e, .int 0]), (e, u2, .inr .byte, ds.map bt), (sa, w, .inl kS, [.ref b, .int 0])]) rfl ?_
  refine wp_front C 3 (L' := [(sa, w, .inl kS, [.ref b, .int 0]), (b, u, .inr .byte, cs.map bt), (ta, w2, .inl kS, [.ref e, .int 0]), (e, u2, .inr .byte, ds.map bt)]) rfl ?_
  exact wp_retN C 48 rfl (Or.inl rfl) nar_ite (by decide) (by decide) (⟨rfl, rfl⟩)
theorem pn29 : plainFor (⟨"java/lang/String", "equalsIgnoreCase", "(Ljava/lang/String;)Z"⟩ : MethodName) = true := by first | (refine plainFor_of_name ?_; simp [plainName, overriddenIn]; done) | (refine plainFor_of_name ?_; decide +kernel) | decide +kernel
theorem pd20 : parseMethodDescriptor "(ZILjava/lang/String;II)Z" = some ⟨[.boolean, .int, (.object "java/lang/String"), .int, .int], (some .boolean)⟩ := by decide +kernel
def B_rm_eqi : Prog := [(0, .aload_n 0, 1), (1, .aload_n 1, 1), (2, .if_acmp .ne 7, 3), (9, .aload_n 1, 1), (10, .ifnull 33, 3), (13, .aload_n 1, 1), (14, .invokevirtual 505, 3), (17, .aload_n 0, 1), (18, .invokevirtual 505, 3), (21, .if_icmp .ne 22, 3), (24, .aload_n 0, 1), (25, .iconst 1, 1), (26, .iconst 0, 1), (27, .aload_n 1, 1), (28, .iconst 0, 1), (29, .aload_n 0, 1), (30, .invokevirtual 505, 3), (33, .invokevirtual 582, 3), (36, .ifCond .eq 7, 3), (39, .iconst 1, 1), (40, .goto 4, 3), (43, .iconst 0, 1), (44, .ireturn, 1)]
theorem B_rm_eqi_ok : okB jdk_42_method_70_code B_rm_eqi = true := by decide +kernel
set_option maxRecDepth 65536 in
set_option maxHeartbeats 40000000 in
theorem rm_eqi (l : Launch) (Z : State) (a0 : Array Value) (hw : ∀ d ∈ tables_1, d.before a0 Z = true) (sa b ta e : Addr) (u : Bool) (cs ds : List Int32) (cz : Int32) (S1 : Sta Z Z.heap "java/lang/String" "COMPACT_STRINGS" "Z" (.int cz)) (hcz : cz ≠ 0) (hlc : Lat cs) (hld : Lat ds) (hc31 : cs.length < 2 ^ 31) (hd31 : ds.length < 2 ^ 31) : Ct l Z EL1 nw1 (⟨"java/lang/String", "equalsIgnoreCase", "(Ljava/lang/String;)Z"⟩ : MethodName) jdk_42_method_70_code 2 (some .boolean) [] ({ frames := 3, cells := 0, slots := 0, locals := 53 } : Room) [.ref sa, .ref ta] [(sa, true, .inl kS, [.ref b, .int 0]), (b, u, .inr .byte, cs.map bt), (ta, true, .inl kS, [.ref e, .int 0]), (e, true, .inr .byte, ds.map bt)] (fun v L => v = some (.int (if cs.map foldV = ds.map foldV then 1 else 0)) ∧ L = [(sa, true, .inl kS, [.ref b, .int 0]), (b, u, .inr .byte, cs.map bt), (ta, true, .inl kS, [.ref e, .int 0]), (e, true, .inr .byte, ds.map bt)]) := by
  refine ct_of pn29 (B := B_rm_eqi) (ls := [.val (.ref sa), .val (.ref ta)]) B_rm_eqi_ok (ew1 hw) (fun m => by first | (simp [entryFrame, mkF, argsToLocals, Value.category]; done) | rfl) (fun K C => ?_)
  obtain ⟨n1, hnn1⟩ : ∃ n : Int32, cs.length.toInt32 = n := ⟨_, rfl⟩
  have hn1 : n1.toInt = cs.length := by rw [← hnn1]; exact len_toInt hc31
  obtain ⟨n2, hnn2⟩ : ∃ n : Int32, ds.length.toInt32 = n := ⟨_, rfl⟩
  have hn2 : n2.toInt = ds.length := by rw [← hnn2]; exact len_toInt hd31
  refine wp_blk C 0 2 (pc' := 2) (ls' := [.val (.ref sa), .val (.ref ta)]) (st' := [.ref ta, .ref sa]) rfl ?_
  refine wp_ne C 0 2 rfl rfl (by decide) rfl (fun hne => ?_)
  refine wp_acY C 2 9 rfl rfl rfl (by simp [XT.acmp, hne]) rfl (by decide) ?_
  refine wp_blk C 3 1 (pc' := 10) (ls' := [.val (.ref sa), .val (.ref ta)]) (st' := [.ref ta]) rfl ?_
  refine wp_nullN C 4 13 rfl rfl ?_
  refine wp_blk C 5 1 (pc' := 14) (ls' := [.val (.ref sa), .val (.ref ta)]) (st' := [.ref ta]) rfl ?_
  refine wp_front C 3 (L' := [(e, true, .inr .byte, ds.map bt), (sa, true, .inl kS, [.ref b, .int 0]), (b, u, .inr .byte, cs.map bt), (ta, true, .inl kS, [.ref e, .int 0])]) rfl ?_
  refine wp_front C 3 (L' := [(ta, true, .inl kS, [.ref e, .int 0]), (e, true, .inr .byte, ds.map bt), (sa, true, .inl kS, [.ref b, .int 0]), (b, u, .inr .byte, cs.map bt)]) rfl ?_
  refine wp_virtual C (al := []) (rest := []) (L1 := [(sa, true, .inl kS, [.ref b, .int 0]), (b, u, .inr .byte, cs.map bt)]) (W := 0) (cells' := 0) (slots' := 0) 6 17 0 (rm_len l Z a0 hw ta e true true ds n2 cz S1 hcz hn2) rfl rfl rfl (wd hw 172 rfl) (wd hw 84 rfl) (nf_self (wd hw 86 rfl)) (wd hw 86 rfl) (wd hw 85 rfl) (wd hw 87 rfl) (wd hw 12 rfl) (by decide) pd11 rfl rfl rfl rfl (by decide) (by decide) rfl rfl rfl (by decide) (by decide) (fun v L' hQ => ?_)
  obtain ⟨rfl, rfl⟩ := hQ
  show Wp K 0 0 [(ta, true, .inl kS, [.ref e, .int 0]), (e, true, .inr .byte, ds.map bt), (sa, true, .inl kS, [.ref b, .int 0]), (b, u, .inr .byte, cs.map bt)] 17 [.val (.ref sa), .val (.ref ta)] [.int n2]
  refine wp_blk C 7 1 (pc' := 18) (ls' := [.val (.ref sa), .val (.ref ta)]) (st' := [.ref sa, .int n2]) rfl ?_
  refine wp_front C 3 (L' := [(b, u, .inr .byte, cs.map bt), (ta, true, .inl kS, [.ref e, .int 0]), (e, true, .inr .byte, ds.map bt), (sa, true, .inl kS, [.ref b, .int 0])]) rfl ?_
  refine wp_front C 3 (L' := [(sa, true, .inl kS, [.ref b, .int 0]), (b, u, .inr .byte, cs.map bt), (ta, true, .inl kS, [.ref e, .int 0]), (e, true, .inr .byte, ds.map bt)]) rfl ?_
  refine wp_virtual C (al := []) (rest := [.int n2]) (L1 := [(ta, true, .inl kS, [.ref e, .int 0]), (e, true, .inr .byte, ds.map bt)]) (W := 1) (cells' := 0) (slots' := 0) 8 21 0 (rm_len l Z a0 hw sa b true u cs n1 cz S1 hcz hn1) rfl rfl rfl (wd hw 172 rfl) (wd hw 84 rfl) (nf_self (wd hw 86 rfl)) (wd hw 86 rfl) (wd hw 85 rfl) (wd hw 87 rfl) (wd hw 12 rfl) (by decide) pd11 rfl rfl rfl rfl (by decide) (by decide) rfl rfl rfl (by decide) (by decide) (fun v L' hQ => ?_)
  obtain ⟨rfl, rfl⟩ := hQ
  show Wp K 0 0 [(sa, true, .inl kS, [.ref b, .int 0]), (b, u, .inr .byte, cs.map bt), (ta, true, .inl kS, [.ref e, .int 0]), (e, true, .inr .byte, ds.map bt)] 21 [.val (.ref sa), .val (.ref ta)] [.int n1, .int n2]
  refine wp_icmp C 9 43 24 rfl rfl rfl (by decide) (fun (hq : (n2 : Int32) ≠ n1) => ?_) (fun (hq : (n2 : Int32) = n1) => ?_)
  · refine wp_blk C 21 1 (pc' := 44) (ls' := [.val (.ref sa), .val (.ref ta)]) (st' := [.int 0]) rfl ?_
    exact wp_retN C (z' := 0) 22 rfl (Or.inl rfl) rfl (by decide) (by decide) (⟨by rw [if_neg (fun q => hq (by have := congrArg List.length q; rw [List.length_map, List.length_map] at this; rw [← hnn1, ← hnn2, this]))], rfl⟩)
  · have hll : cs.length = ds.length := by rw [hq] at hn2; omega
    refine wp_blk C 10 6 (pc' := 30) (ls' := [.val (.ref sa), .val (.ref ta)]) (st' := [.ref sa, .int 0, .ref ta, .int 0, .int 1, .ref sa]) rfl ?_
    refine wp_virtual C (al := []) (rest := [.int 0, .ref ta, .int 0, .int 1, .ref sa]) (L1 := [(ta, true, .inl kS, [.ref e, .int 0]), (e, true, .inr .byte, ds.map bt)]) (W := 5) (cells' := 0) (slots' := 0) 16 33 0 (rm_len l Z a0 hw sa b true u cs n1 cz S1 hcz hn1) rfl rfl rfl (wd hw 172 rfl) (wd hw 84 rfl) (nf_self (wd hw 86 rfl)) (wd hw 86 rfl) (wd hw 85 rfl) (wd hw 87 rfl) (wd hw 12 rfl) (by decide) pd11 rfl rfl rfl rfl (by decide) (by decide) rfl rfl rfl (by decide) (by decide) (fun v L' hQ => ?_)
    obtain ⟨rfl, rfl⟩ := hQ
    show Wp K 0 0 [(sa, true, .inl kS, [.ref b, .int 0]), (b, u, .inr .byte, cs.map bt), (ta, true, .inl kS, [.ref e, .int 0]), (e, true, .inr .byte, ds.map bt)] 33 [.val (.ref sa), .val (.ref ta)] [.int n1, .int 0, .ref ta, .int 0, .int 1, .ref sa]
    refine wp_virtual C (al := [.int 1, .int 0, .ref ta, .int 0, .int n1]) (rest := []) (L1 := []) (W := 0) (cells' := 0) (slots' := 0) 17 36 0 (rm_rgm l Z a0 hw sa b ta e true u true true cs ds n1 cz S1 hcz hlc hld hll hn1 (by omega)) rfl rfl rfl (wd hw 183 rfl) (wd hw 184 rfl) (nf_self (wd hw 186 rfl)) (wd hw 186 rfl) (wd hw 185 rfl) (wd hw 187 rfl) (wd hw 12 rfl) (by decide) pd20 rfl rfl rfl rfl (by decide) (by decide) rfl rfl rfl (by decide) (by decide) (fun v L' hQ => ?_)
    obtain ⟨rfl, rfl⟩ := hQ
    show Wp K 0 0 [(sa, true, .inl kS, [.ref b, .int 0]), (b, u, .inr .byte, cs.map bt), (ta, true, .inl kS, [.ref e, .int 0]), (e, true, .inr .byte, ds.map bt)] 36 [.val (.ref sa), .val (.ref ta)] [.int (if cs.map foldV = ds.map foldV then 1 else 0)]
    by_cases hm : cs.map foldV = ds.map foldV
    · rw [if_pos hm]
      refine wp_ifz C 18 43 39 rfl rfl rfl (by decide) (fun h => absurd h (fun q : (1 : Int32) = 0 => absurd q (by decide))) (fun _ => ?_)
      refine wp_blk C 19 2 (pc' := 44) (ls' := [.val (.ref sa), .val (.ref ta)]) (st' := [.int 1]) rfl ?_
      exact wp_retN C (z' := 1) 22 rfl (Or.inl rfl) rfl (by decide) (by decide) (⟨by rw [if_pos hm], rfl⟩)
    · rw [if_neg hm]
      refine wp_ifz C 18 43 39 rfl rfl rfl (by decide) (fun _ => ?_) (fun h => absurd h (fun q : (0 : Int32) ≠ 0 => absurd q (by decide)))
      refine wp_blk C 21 1 (pc' := 44) (ls' := [.val (.ref sa), .val (.ref ta)]) (st' := [.int 0]) rfl ?_
      exact wp_retN C (z' := 0) 22 rfl (Or.inl rfl) rfl (by decide) (by decide) (⟨by rw [if_neg hm], rfl⟩)
def tgtV (i tl t0 t1 s0 s1 : Int32) : Int32 := if tl.toInt ≤ i.toInt then (if i ≠ tl then (if i - tl - 1 ≠ 0 then s1 else s0) else 47) else (if i ≠ 0 then t1 else t0)
def strN (n a b c d e : Int32) : List Int32 := if n ≠ 0 then (if n ≠ 1 then (if n ≠ 2 then (if n ≠ 3 then (if n ≠ 4 then [a, b, c, d, e] else [a, b, c, d]) else [a, b, c]) else [a, b]) else [a]) else []
theorem in6 {x : Int32} (h : 0 ≤ x.toInt ∧ x.toInt ≤ 5) : x = 0 ∨ x = 1 ∨ x = 2 ∨ x = 3 ∨ x = 4 ∨ x = 5 := by
  simp only [← Int32.toInt_inj, show (0 : Int32).toInt = 0 from rfl, show (1 : Int32).toInt = 1 from rfl, show (2 : Int32).toInt = 2 from rfl, show (3 : Int32).toInt = 3 from rfl, show (4 : Int32).toInt = 4 from rfl, show (5 : Int32).toInt = 5 from rfl]
  omega
def IsL (tl t0 t1 sl s0 s1 el e0 e1 e2 e3 e4 : Int32) : Prop := (strN el e0 e1 e2 e3 e4).map foldV = ([] ++ strN tl t0 t1 0 0 0 ++ [47] ++ strN sl s0 s1 0 0 0).map foldV
theorem is_law {tl t0 t1 sl s0 s1 el e0 e1 e2 e3 e4 : Int32} (htl : tl = 0 ∨ tl = 1 ∨ tl = 2) (hsl : sl = 0 ∨ sl = 1 ∨ sl = 2) (hel : 0 ≤ el.toInt ∧ el.toInt ≤ 5) :
    IsL tl t0 t1 sl s0 s1 el e0 e1 e2 e3 e4 ↔ (el = tl + 1 + sl ∧ (el.toInt ≤ (0 : Int32).toInt ∨ foldV e0 = foldV (tgtV 0 tl t0 t1 s0 s1)) ∧ (el.toInt ≤ (1 : Int32).toInt ∨ foldV e1 = foldV (tgtV 1 tl t0 t1 s0 s1)) ∧ (el.toInt ≤ (2 : Int32).toInt ∨ foldV e2 = foldV (tgtV 2 tl t0 t1 s0 s1)) ∧ (el.toInt ≤ (3 : Int32).toInt ∨ foldV e3 = foldV (tgtV 3 tl t0 t1 s0 s1)) ∧ (el.toInt ≤ (4 : Int32).toInt ∨ foldV e4 = foldV (tgtV 4 tl t0 t1 s0 s1))) := by
  unfold IsL
  generalize hF : foldV = F
  clear hF
  rcases htl with rfl | rfl | rfl <;> rcases hsl with rfl | rfl | rfl <;> rcases in6 hel with rfl | rfl | rfl | rfl | rfl | rfl <;> simp [strN, tgtV]
theorem r3 (x : Int32) (h : 0 ≤ x.toInt) : x % 3 = 0 ∨ x % 3 = 1 ∨ x % 3 = 2 := by
  simp only [← Int32.toInt_inj, show (0 : Int32).toInt = 0 from rfl, show (1 : Int32).toInt = 1 from rfl, show (2 : Int32).toInt = 2 from rfl]
  rw [Int32.toInt_mod, show (3 : Int32).toInt = 3 from rfl, Int.tmod_eq_emod_of_nonneg h]
  omega
theorem r6 (x : Int32) (h : 0 ≤ x.toInt) : 0 ≤ (x % 6).toInt ∧ (x % 6).toInt ≤ 5 := by
  rw [Int32.toInt_mod, show (6 : Int32).toInt = 6 from rfl, Int.tmod_eq_emod_of_nonneg h]
  omega
theorem l255 (x : Int64) : (x &&& 255).toInt32 = x.toInt32 &&& 255 := by
  rw [Int64.toInt32_and]; rfl
theorem tot5 {tl sl : Int32} (htl : tl = 0 ∨ tl = 1 ∨ tl = 2) (hsl : sl = 0 ∨ sl = 1 ∨ sl = 2) : 0 ≤ (tl + 1 + sl).toInt ∧ (tl + 1 + sl).toInt ≤ 5 := by
  rcases htl with rfl | rfl | rfl <;> rcases hsl with rfl | rfl | rfl <;> decide
theorem lat_app {cs ds : List Int32} (h : Lat cs) (k : Lat ds) : Lat (cs ++ ds) := fun c hc => (List.mem_append.mp hc).elim (h c) (k c)
theorem lat_nil : Lat [] := fun c hc => nomatch hc
theorem lat_sl : Lat [47] := by intro c hc; simp only [List.mem_cons, List.not_mem_nil, or_false] at hc; subst hc; decide
theorem lat_strN {n a b c d e : Int32} (ha : 0 ≤ a.toInt ∧ a.toInt ≤ 255) (hb : 0 ≤ b.toInt ∧ b.toInt ≤ 255) (hc : 0 ≤ c.toInt ∧ c.toInt ≤ 255) (hd : 0 ≤ d.toInt ∧ d.toInt ≤ 255) (he : 0 ≤ e.toInt ∧ e.toInt ≤ 255) : Lat (strN n a b c d e) := by
  intro x hx
  unfold strN at hx
  repeat' split at hx
  all_goals simp only [List.mem_cons, List.not_mem_nil, or_false] at hx
  · rcases hx with rfl | rfl | rfl | rfl | rfl <;> assumption
  · rcases hx with rfl | rfl | rfl | rfl <;> assumption
  · rcases hx with rfl | rfl | rfl <;> assumption
  · rcases hx with rfl | rfl <;> assumption
  · subst hx; assumption
theorem len_strN (n a b c d e : Int32) : (strN n a b c d e).length ≤ 5 := by
  unfold strN
  repeat' split
  all_goals simp
theorem tgt_lat {i tl t0 t1 s0 s1 : Int32} (h0 : 0 ≤ t0.toInt ∧ t0.toInt ≤ 255) (h1 : 0 ≤ t1.toInt ∧ t1.toInt ≤ 255) (h2 : 0 ≤ s0.toInt ∧ s0.toInt ≤ 255) (h3 : 0 ≤ s1.toInt ∧ s1.toInt ≤ 255) : 0 ≤ (tgtV i tl t0 t1 s0 s1).toInt ∧ (tgtV i tl t0 t1 s0 s1).toInt ≤ 255 := by
  unfold tgtV
  repeat' split
  all_goals first | assumption | decide
theorem z255 : 0 ≤ (0 : Int32).toInt ∧ (0 : Int32).toInt ≤ 255 := by decide
theorem i2c_id {k : Int32} (h : 0 ≤ k.toInt ∧ k.toInt ≤ 255) : k.toUInt32.toUInt16.toUInt32.toInt32 = k := nar_chr ⟨h.1, by omega⟩
theorem pn30 : plainFor (⟨"com/example/remitter/remitter/MediaTypeIsPinLaw", "tgt", "(IIIIII)I"⟩ : MethodName) = true := by first | (refine plainFor_of_name ?_; simp [plainName, overriddenIn]; done) | (refine plainFor_of_name ?_; decide +kernel) | decide +kernel
def B_rm_tgt : Prog := [(0, .iload_n 0, 1), (1, .iload_n 1, 1), (2, .if_icmp .ge 13, 3), (5, .iload_n 0, 1), (6, .ifCond .ne 7, 3), (9, .iload_n 2, 1), (10, .goto 4, 3), (13, .iload_n 3, 1), (14, .ireturn, 1), (15, .iload_n 0, 1), (16, .iload_n 1, 1), (17, .if_icmp .ne 6, 3), (20, .bipush 47, 2), (22, .ireturn, 1), (23, .iload_n 0, 1), (24, .iload_n 1, 1), (25, .isub, 1), (26, .iconst 1, 1), (27, .isub, 1), (28, .istore 6, 2), (30, .iload 6, 2), (32, .ifCond .ne 8, 3), (35, .iload 4, 2), (37, .goto 5, 3), (40, .iload 5, 2), (42, .ireturn, 1)]
theorem B_rm_tgt_ok : okB method_3_code B_rm_tgt = true := by decide +kernel
set_option maxRecDepth 65536 in
set_option maxHeartbeats 40000000 in
theorem rm_tgt (l : Launch) (Z : State) (a0 : Array Value) (hw : ∀ d ∈ tables_1, d.before a0 Z = true) (i tl t0 t1 s0 s1 : Int32) : Ct l Z EL1 nw1 (⟨"com/example/remitter/remitter/MediaTypeIsPinLaw", "tgt", "(IIIIII)I"⟩ : MethodName) method_3_code 7 (some .int) [] ({ frames := 0, cells := 0, slots := 0, locals := 0 } : Room) [.int i, .int tl, .int t0, .int t1, .int s0, .int s1] [] (fun v L => v = some (.int (tgtV i tl t0 t1 s0 s1)) ∧ L = []) := by
  refine ct_of pn30 (B := B_rm_tgt) (ls := [.val (.int i), .val (.int tl), .val (.int t0), .val (.int t1), .val (.int s0), .val (.int s1), .unset]) B_rm_tgt_ok (ew1 hw) (fun m => by first | (simp [entryFrame, mkF, argsToLocals, Value.category]; done) | rfl) (fun K C => ?_)
  refine wp_blk C 0 2 (pc' := 2) (ls' := [.val (.int i), .val (.int tl), .val (.int t0), .val (.int t1), .val (.int s0), .val (.int s1), .unset]) (st' := [.int tl, .int i]) rfl ?_
  refine wp_icmp C 2 15 5 rfl rfl rfl (by decide) (fun (h0 : (tl : Int32).toInt ≤ (i : Int32).toInt) => ?_) (fun (h0 : (i : Int32).toInt < (tl : Int32).toInt) => ?_)
  · refine wp_blk C 9 2 (pc' := 17) (ls' := [.val (.int i), .val (.int tl), .val (.int t0), .val (.int t1), .val (.int s0), .val (.int s1), .unset]) (st' := [.int tl, .int i]) rfl ?_
    refine wp_icmp C 11 23 20 rfl rfl rfl (by decide) (fun (h1 : (i : Int32) ≠ tl) => ?_) (fun (h1 : (i : Int32) = tl) => ?_)
    · refine wp_blk C 14 7 (pc' := 32) (ls' := [.val (.int i), .val (.int tl), .val (.int t0), .val (.int t1), .val (.int s0), .val (.int s1), .val (.int ((i - tl) - 1))]) (st' := [.int ((i - tl) - 1)]) rfl ?_
      refine wp_ifz C 21 40 35 rfl rfl rfl (by decide) (fun (h2 : (((i - tl) - 1) : Int32) ≠ 0) => ?_) (fun (h2 : (((i - tl) - 1) : Int32) = 0) => ?_)
      · refine wp_blk C 24 1 (pc' := 42) (ls' := [.val (.int i), .val (.int tl), .val (.int t0), .val (.int t1), .val (.int s0), .val (.int s1), .val (.int ((i - tl) - 1))]) (st' := [.int s1]) rfl ?_
        exact wp_retI C 25 rfl (by decide) (by decide) (⟨by unfold tgtV; rw [if_pos h0, if_pos h1, if_pos h2], rfl⟩)
      · refine wp_blk C 22 2 (pc' := 42) (ls' := [.val (.int i), .val (.int tl), .val (.int t0), .val (.int t1), .val (.int s0), .val (.int s1), .val (.int ((i - tl) - 1))]) (st' := [.int s0]) rfl ?_
        exact wp_retI C 25 rfl (by decide) (by decide) (⟨by unfold tgtV; rw [if_pos h0, if_pos h1, if_neg (fun q => q h2)], rfl⟩)
    · refine wp_blk C 12 1 (pc' := 22) (ls' := [.val (.int i), .val (.int tl), .val (.int t0), .val (.int t1), .val (.int s0), .val (.int s1), .unset]) (st' := [.int 47]) rfl ?_
      exact wp_retI C 13 rfl (by decide) (by decide) (⟨by unfold tgtV; rw [if_pos h0, if_neg (fun q => q h1)], rfl⟩)
  · refine wp_blk C 3 1 (pc' := 6) (ls' := [.val (.int i), .val (.int tl), .val (.int t0), .val (.int t1), .val (.int s0), .val (.int s1), .unset]) (st' := [.int i]) rfl ?_
    refine wp_ifz C 4 13 9 rfl rfl rfl (by decide) (fun (h1 : (i : Int32) ≠ 0) => ?_) (fun (h1 : (i : Int32) = 0) => ?_)
    · refine wp_blk C 7 1 (pc' := 14) (ls' := [.val (.int i), .val (.int tl), .val (.int t0), .val (.int t1), .val (.int s0), .val (.int s1), .unset]) (st' := [.int t1]) rfl ?_
      exact wp_retI C 8 rfl (by decide) (by decide) (⟨by unfold tgtV; rw [if_neg (by omega), if_pos h1], rfl⟩)
    · refine wp_blk C 5 2 (pc' := 14) (ls' := [.val (.int i), .val (.int tl), .val (.int t0), .val (.int t1), .val (.int s0), .val (.int s1), .unset]) (st' := [.int t0]) rfl ?_
      exact wp_retI C 8 rfl (by decide) (by decide) (⟨by unfold tgtV; rw [if_neg (by omega), if_neg (fun q => q h1)], rfl⟩)
theorem pn31 : plainFor (⟨"com/example/remitter/remitter/MediaTypeIsPinLaw", "fold", "(I)I"⟩ : MethodName) = true := by first | (refine plainFor_of_name ?_; simp [plainName, overriddenIn]; done) | (refine plainFor_of_name ?_; decide +kernel) | decide +kernel
def B_rm_fold : Prog := [(0, .iload_n 0, 1), (1, .bipush 65, 2), (3, .if_icmp .lt 14, 3), (6, .iload_n 0, 1), (7, .bipush 90, 2), (9, .if_icmp .gt 8, 3), (12, .iload_n 0, 1), (13, .bipush 32, 2), (15, .iadd, 1), (16, .ireturn, 1), (17, .iload_n 0, 1), (18, .sipush 192, 3), (21, .if_icmp .lt 22, 3), (24, .iload_n 0, 1), (25, .sipush 222, 3), (28, .if_icmp .gt 15, 3), (31, .iload_n 0, 1), (32, .sipush 215, 3), (35, .if_icmp .eq 8, 3), (38, .iload_n 0, 1), (39, .bipush 32, 2), (41, .iadd, 1), (42, .ireturn, 1), (43, .iload_n 0, 1), (44, .ireturn, 1)]
theorem B_rm_fold_ok : okB method_6_code B_rm_fold = true := by decide +kernel
set_option maxRecDepth 65536 in
set_option maxHeartbeats 40000000 in
theorem rm_fold (l : Launch) (Z : State) (a0 : Array Value) (hw : ∀ d ∈ tables_1, d.before a0 Z = true) (k : Int32) : Ct l Z EL1 nw1 (⟨"com/example/remitter/remitter/MediaTypeIsPinLaw", "fold", "(I)I"⟩ : MethodName) method_6_code 1 (some .int) [] ({ frames := 0, cells := 0, slots := 0, locals := 0 } : Room) [.int k] [] (fun v L => v = some (.int (foldV k)) ∧ L = []) := by
  refine ct_of pn31 (B := B_rm_fold) (ls := [.val (.int k)]) B_rm_fold_ok (ew1 hw) (fun m => by first | (simp [entryFrame, mkF, argsToLocals, Value.category]; done) | rfl) (fun K C => ?_)
  refine wp_blk C 0 2 (pc' := 3) (ls' := [.val (.int k)]) (st' := [.int 65, .int k]) rfl ?_
  refine wp_icmp C 2 17 6 rfl rfl rfl (by decide) (fun (h0 : (k : Int32).toInt < (65 : Int32).toInt) => ?_) (fun (h0 : (65 : Int32).toInt ≤ (k : Int32).toInt) => ?_)
  · rw [show (65 : Int32).toInt = 65 from rfl] at h0
    refine wp_blk C 10 2 (pc' := 21) (ls' := [.val (.int k)]) (st' := [.int 192, .int k]) rfl ?_
    refine wp_icmp C 12 43 24 rfl rfl rfl (by decide) (fun (h1 : (k : Int32).toInt < (192 : Int32).toInt) => ?_) (fun (h1 : (192 : Int32).toInt ≤ (k : Int32).toInt) => ?_)
    · rw [show (192 : Int32).toInt = 192 from rfl] at h1
      refine wp_blk C 23 1 (pc' := 44) (ls' := [.val (.int k)]) (st' := [.int k]) rfl ?_
      exact wp_retI C 24 rfl (by decide) (by decide) (⟨by unfold foldV; split <;> (try split) <;> first | rfl | (exfalso; omega) | (exfalso; rename_i q; exact q.2.2 (by assumption)) | (exfalso; rename_i q; exact q ⟨by omega, by omega, by assumption⟩), rfl⟩)
    · rw [show (192 : Int32).toInt = 192 from rfl] at h1
      refine wp_blk C 13 2 (pc' := 28) (ls' := [.val (.int k)]) (st' := [.int 222, .int k]) rfl ?_
      refine wp_icmp C 15 43 31 rfl rfl rfl (by decide) (fun (h2 : (222 : Int32).toInt < (k : Int32).toInt) => ?_) (fun (h2 : (k : Int32).toInt ≤ (222 : Int32).toInt) => ?_)
      · rw [show (222 : Int32).toInt = 222 from rfl] at h2
        refine wp_blk C 23 1 (pc' := 44) (ls' := [.val (.int k)]) (st' := [.int k]) rfl ?_
        exact wp_retI C 24 rfl (by decide) (by decide) (⟨by unfold foldV; split <;> (try split) <;> first | rfl | (exfalso; omega) | (exfalso; rename_i q; exact q.2.2 (by assumption)) | (exfalso; rename_i q; exact q ⟨by omega, by omega, by assumption⟩), rfl⟩)
      · rw [show (222 : Int32).toInt = 222 from rfl] at h2
        refine wp_blk C 16 2 (pc' := 35) (ls' := [.val (.int k)]) (st' := [.int 215, .int k]) rfl ?_
        refine wp_icmp C 18 43 38 rfl rfl rfl (by decide) (fun (h3 : (k : Int32) = 215) => ?_) (fun (h3 : (k : Int32) ≠ 215) => ?_)
        · refine wp_blk C 23 1 (pc' := 44) (ls' := [.val (.int k)]) (st' := [.int k]) rfl ?_
          exact wp_retI C 24 rfl (by decide) (by decide) (⟨by unfold foldV; split <;> (try split) <;> first | rfl | (exfalso; omega) | (exfalso; rename_i q; exact q.2.2 (by assumption)) | (exfalso; rename_i q; exact q ⟨by omega, by omega, by assumption⟩), rfl⟩)
        · refine wp_blk C 19 3 (pc' := 42) (ls' := [.val (.int k)]) (st' := [.int (k + 32)]) rfl ?_
          exact wp_retI C 22 rfl (by decide) (by decide) (⟨by unfold foldV; split <;> (try split) <;> first | rfl | (exfalso; omega) | (exfalso; rename_i q; exact q.2.2 (by assumption)) | (exfalso; rename_i q; exact q ⟨by omega, by omega, by assumption⟩), rfl⟩)
  · rw [show (65 : Int32).toInt = 65 from rfl] at h0
    refine wp_blk C 3 2 (pc' := 9) (ls' := [.val (.int k)]) (st' := [.int 90, .int k]) rfl ?_
    refine wp_icmp C 5 17 12 rfl rfl rfl (by decide) (fun (h1 : (90 : Int32).toInt < (k : Int32).toInt) => ?_) (fun (h1 : (k : Int32).toInt ≤ (90 : Int32).toInt) => ?_)
    · rw [show (90 : Int32).toInt = 90 from rfl] at h1
      refine wp_blk C 10 2 (pc' := 21) (ls' := [.val (.int k)]) (st' := [.int 192, .int k]) rfl ?_
      refine wp_icmp C 12 43 24 rfl rfl rfl (by decide) (fun (h2 : (k : Int32).toInt < (192 : Int32).toInt) => ?_) (fun (h2 : (192 : Int32).toInt ≤ (k : Int32).toInt) => ?_)
      · rw [show (192 : Int32).toInt = 192 from rfl] at h2
        refine wp_blk C 23 1 (pc' := 44) (ls' := [.val (.int k)]) (st' := [.int k]) rfl ?_
        exact wp_retI C 24 rfl (by decide) (by decide) (⟨by unfold foldV; split <;> (try split) <;> first | rfl | (exfalso; omega) | (exfalso; rename_i q; exact q.2.2 (by assumption)) | (exfalso; rename_i q; exact q ⟨by omega, by omega, by assumption⟩), rfl⟩)
      · rw [show (192 : Int32).toInt = 192 from rfl] at h2
        refine wp_blk C 13 2 (pc' := 28) (ls' := [.val (.int k)]) (st' := [.int 222, .int k]) rfl ?_
        refine wp_icmp C 15 43 31 rfl rfl rfl (by decide) (fun (h3 : (222 : Int32).toInt < (k : Int32).toInt) => ?_) (fun (h3 : (k : Int32).toInt ≤ (222 : Int32).toInt) => ?_)
        · rw [show (222 : Int32).toInt = 222 from rfl] at h3
          refine wp_blk C 23 1 (pc' := 44) (ls' := [.val (.int k)]) (st' := [.int k]) rfl ?_
          exact wp_retI C 24 rfl (by decide) (by decide) (⟨by unfold foldV; split <;> (try split) <;> first | rfl | (exfalso; omega) | (exfalso; rename_i q; exact q.2.2 (by assumption)) | (exfalso; rename_i q; exact q ⟨by omega, by omega, by assumption⟩), rfl⟩)
        · rw [show (222 : Int32).toInt = 222 from rfl] at h3
          refine wp_blk C 16 2 (pc' := 35) (ls' := [.val (.int k)]) (st' := [.int 215, .int k]) rfl ?_
          refine wp_icmp C 18 43 38 rfl rfl rfl (by decide) (fun (h4 : (k : Int32) = 215) => ?_) (fun (h4 : (k : Int32) ≠ 215) => ?_)
          · refine wp_blk C 23 1 (pc' := 44) (ls' := [.val (.int k)]) (st' := [.int k]) rfl ?_
            exact wp_retI C 24 rfl (by decide) (by decide) (⟨by unfold foldV; split <;> (try split) <;> first | rfl | (exfalso; omega) | (exfalso; rename_i q; exact q.2.2 (by assumption)) | (exfalso; rename_i q; exact q ⟨by omega, by omega, by assumption⟩), rfl⟩)
          · refine wp_blk C 19 3 (pc' := 42) (ls' := [.val (.int k)]) (st' := [.int (k + 32)]) rfl ?_
            exact wp_retI C 22 rfl (by decide) (by decide) (⟨by unfold foldV; split <;> (try split) <;> first | rfl | (exfalso; omega) | (exfalso; rename_i q; exact q.2.2 (by assumption)) | (exfalso; rename_i q; exact q ⟨by omega, by omega, by assumption⟩), rfl⟩)
    · rw [show (90 : Int32).toInt = 90 from rfl] at h1
      refine wp_blk C 6 3 (pc' := 16) (ls' := [.val (.int k)]) (st' := [.int (k + 32)]) rfl ?_
      exact wp_retI C 9 rfl (by decide) (by decide) (⟨by unfold foldV; split <;> (try split) <;> first | rfl | (exfalso; omega) | (exfalso; rename_i q; exact q.2.2 (by assumption)) | (exfalso; rename_i q; exact q ⟨by omega, by omega, by assumption⟩), rfl⟩)
theorem pn32 : plainFor (⟨"com/example/remitter/remitter/MediaTypeIsPinLaw", "flip", "(I)I"⟩ : MethodName) = true := by first | (refine plainFor_of_name ?_; simp [plainName, overriddenIn]; done) | (refine plainFor_of_name ?_; decide +kernel) | decide +kernel
def B_rm_flip : Prog := [(0, .iload_n 0, 1), (1, .bipush 97, 2), (3, .if_icmp .lt 14, 3), (6, .iload_n 0, 1), (7, .bipush 122, 2), (9, .if_icmp .gt 8, 3), (12, .iload_n 0, 1), (13, .bipush 32, 2), (15, .isub, 1), (16, .ireturn, 1), (17, .iload_n 0, 1), (18, .bipush 65, 2), (20, .if_icmp .lt 14, 3), (23, .iload_n 0, 1), (24, .bipush 90, 2), (26, .if_icmp .gt 8, 3), (29, .iload_n 0, 1), (30, .bipush 32, 2), (32, .iadd, 1), (33, .ireturn, 1), (34, .iload_n 0, 1), (35, .sipush 224, 3), (38, .if_icmp .lt 22, 3), (41, .iload_n 0, 1), (42, .sipush 254, 3), (45, .if_icmp .gt 15, 3), (48, .iload_n 0, 1), (49, .sipush 247, 3), (52, .if_icmp .eq 8, 3), (55, .iload_n 0, 1), (56, .bipush 32, 2), (58, .isub, 1), (59, .ireturn, 1), (60, .iload_n 0, 1), (61, .sipush 192, 3), (64, .if_icmp .lt 22, 3), (67, .iload_n 0, 1), (68, .sipush 222, 3), (71, .if_icmp .gt 15, 3), (74, .iload_n 0, 1), (75, .sipush 215, 3), (78, .if_icmp .eq 8, 3), (81, .iload_n 0, 1), (82, .bipush 32, 2), (84, .iadd, 1), (85, .ireturn, 1), (86, .iload_n 0, 1), (87, .ireturn, 1)]
theorem B_rm_flip_ok : okB method_5_code B_rm_flip = true := by decide +kernel
set_option maxRecDepth 65536 in
set_option maxHeartbeats 40000000 in
theorem rm_flip (l : Launch) (Z : State) (a0 : Array Value) (hw : ∀ d ∈ tables_1, d.before a0 Z = true) (k : Int32) (hk : 0 ≤ k.toInt ∧ k.toInt ≤ 255) : Ct l Z EL1 nw1 (⟨"com/example/remitter/remitter/MediaTypeIsPinLaw", "flip", "(I)I"⟩ : MethodName) method_5_code 1 (some .int) [] ({ frames := 0, cells := 0, slots := 0, locals := 0 } : Room) [.int k] [] (fun v L => ∃ r : Int32, v = some (.int r) ∧ (0 ≤ r.toInt ∧ r.toInt ≤ 255) ∧ L = []) := by
  refine ct_of pn32 (B := B_rm_flip) (ls := [.val (.int k)]) B_rm_flip_ok (ew1 hw) (fun m => by first | (simp [entryFrame, mkF, argsToLocals, Value.category]; done) | rfl) (fun K C => ?_)
  refine wp_blk C 0 2 (pc' := 3) (ls' := [.val (.int k)]) (st' := [.int 97, .int k]) rfl ?_
  refine wp_icmp C 2 17 6 rfl rfl rfl (by decide) (fun (h0 : (k : Int32).toInt < (97 : Int32).toInt) => ?_) (fun (h0 : (97 : Int32).toInt ≤ (k : Int32).toInt) => ?_)
  · rw [show (97 : Int32).toInt = 97 from rfl] at h0
    refine wp_blk C 10 2 (pc' := 20) (ls' := [.val (.int k)]) (st' := [.int 65, .int k]) rfl ?_
    refine wp_icmp C 12 34 23 rfl rfl rfl (by decide) (fun (h1 : (k : Int32).toInt < (65 : Int32).toInt) => ?_) (fun (h1 : (65 : Int32).toInt ≤ (k : Int32).toInt) => ?_)
    · rw [show (65 : Int32).toInt = 65 from rfl] at h1
      refine wp_blk C 20 2 (pc' := 38) (ls' := [.val (.int k)]) (st' := [.int 224, .int k]) rfl ?_
      refine wp_icmp C 22 60 41 rfl rfl rfl (by decide) (fun (h2 : (k : Int32).toInt < (224 : Int32).toInt) => ?_) (fun (h2 : (224 : Int32).toInt ≤ (k : Int32).toInt) => ?_)
      · rw [show (224 : Int32).toInt = 224 from rfl] at h2
        refine wp_blk C 33 2 (pc' := 64) (ls' := [.val (.int k)]) (st' := [.int 192, .int k]) rfl ?_
        refine wp_icmp C 35 86 67 rfl rfl rfl (by decide) (fun (h3 : (k : Int32).toInt < (192 : Int32).toInt) => ?_) (fun (h3 : (192 : Int32).toInt ≤ (k : Int32).toInt) => ?_)
        · rw [show (192 : Int32).toInt = 192 from rfl] at h3
          refine wp_blk C 46 1 (pc' := 87) (ls' := [.val (.int k)]) (st' := [.int k]) rfl ?_
          exact wp_retI C 47 rfl (by decide) (by decide) (⟨k, rfl, hk, rfl⟩)
        · rw [show (192 : Int32).toInt = 192 from rfl] at h3
          refine wp_blk C 36 2 (pc' := 71) (ls' := [.val (.int k)]) (st' := [.int 222, .int k]) rfl ?_
          refine wp_icmp C 38 86 74 rfl rfl rfl (by decide) (fun (h4 : (222 : Int32).toInt < (k : Int32).toInt) => ?_) (fun (h4 : (k : Int32).toInt ≤ (222 : Int32).toInt) => ?_)
          · rw [show (222 : Int32).toInt = 222 from rfl] at h4
            refine wp_blk C 46 1 (pc' := 87) (ls' := [.val (.int k)]) (st' := [.int k]) rfl ?_
            exact wp_retI C 47 rfl (by decide) (by decide) (⟨k, rfl, hk, rfl⟩)
          · rw [show (222 : Int32).toInt = 222 from rfl] at h4
            refine wp_blk C 39 2 (pc' := 78) (ls' := [.val (.int k)]) (st' := [.int 215, .int k]) rfl ?_
            refine wp_icmp C 41 86 81 rfl rfl rfl (by decide) (fun (h5 : (k : Int32) = 215) => ?_) (fun (h5 : (k : Int32) ≠ 215) => ?_)
            · refine wp_blk C 46 1 (pc' := 87) (ls' := [.val (.int k)]) (st' := [.int k]) rfl ?_
              exact wp_retI C 47 rfl (by decide) (by decide) (⟨k, rfl, hk, rfl⟩)
            · refine wp_blk C 42 3 (pc' := 85) (ls' := [.val (.int k)]) (st' := [.int (k + 32)]) rfl ?_
              obtain ⟨r, hr⟩ : ∃ nn0 : Int32, nn0 = k + 32 := ⟨_, rfl⟩
              rw [← hr]
              have Hr : r.toInt = k.toInt + 32 := by rw [hr]; exact addI rfl rfl (by omega) (by omega)
              exact wp_retI C 45 rfl (by decide) (by decide) (⟨r, rfl, ⟨by omega, by omega⟩, rfl⟩)
      · rw [show (224 : Int32).toInt = 224 from rfl] at h2
        refine wp_blk C 23 2 (pc' := 45) (ls' := [.val (.int k)]) (st' := [.int 254, .int k]) rfl ?_
        refine wp_icmp C 25 60 48 rfl rfl rfl (by decide) (fun (h3 : (254 : Int32).toInt < (k : Int32).toInt) => ?_) (fun (h3 : (k : Int32).toInt ≤ (254 : Int32).toInt) => ?_)
        · rw [show (254 : Int32).toInt = 254 from rfl] at h3
          refine wp_blk C 33 2 (pc' := 64) (ls' := [.val (.int k)]) (st' := [.int 192, .int k]) rfl ?_
          refine wp_icmp C 35 86 67 rfl rfl rfl (by decide) (fun (h4 : (k : Int32).toInt < (192 : Int32).toInt) => ?_) (fun (h4 : (192 : Int32).toInt ≤ (k : Int32).toInt) => ?_)
          · rw [show (192 : Int32).toInt = 192 from rfl] at h4
            refine wp_blk C 46 1 (pc' := 87) (ls' := [.val (.int k)]) (st' := [.int k]) rfl ?_
            exact wp_retI C 47 rfl (by decide) (by decide) (⟨k, rfl, hk, rfl⟩)
          · rw [show (192 : Int32).toInt = 192 from rfl] at h4
            refine wp_blk C 36 2 (pc' := 71) (ls' := [.val (.int k)]) (st' := [.int 222, .int k]) rfl ?_
            refine wp_icmp C 38 86 74 rfl rfl rfl (by decide) (fun (h5 : (222 : Int32).toInt < (k : Int32).toInt) => ?_) (fun (h5 : (k : Int32).toInt ≤ (222 : Int32).toInt) => ?_)
            · rw [show (222 : Int32).toInt = 222 from rfl] at h5
              refine wp_blk C 46 1 (pc' := 87) (ls' := [.val (.int k)]) (st' := [.int k]) rfl ?_
              exact wp_retI C 47 rfl (by decide) (by decide) (⟨k, rfl, hk, rfl⟩)
            · rw [show (222 : Int32).toInt = 222 from rfl] at h5
              refine wp_blk C 39 2 (pc' := 78) (ls' := [.val (.int k)]) (st' := [.int 215, .int k]) rfl ?_
              refine wp_icmp C 41 86 81 rfl rfl rfl (by decide) (fun (h6 : (k : Int32) = 215) => ?_) (fun (h6 : (k : Int32) ≠ 215) => ?_)
              · refine wp_blk C 46 1 (pc' := 87) (ls' := [.val (.int k)]) (st' := [.int k]) rfl ?_
                exact wp_retI C 47 rfl (by decide) (by decide) (⟨k, rfl, hk, rfl⟩)
              · refine wp_blk C 42 3 (pc' := 85) (ls' := [.val (.int k)]) (st' := [.int (k + 32)]) rfl ?_
                obtain ⟨r, hr⟩ : ∃ nn0 : Int32, nn0 = k + 32 := ⟨_, rfl⟩
                rw [← hr]
                have Hr : r.toInt = k.toInt + 32 := by rw [hr]; exact addI rfl rfl (by omega) (by omega)
                exact wp_retI C 45 rfl (by decide) (by decide) (⟨r, rfl, ⟨by omega, by omega⟩, rfl⟩)
        · rw [show (254 : Int32).toInt = 254 from rfl] at h3
          refine wp_blk C 26 2 (pc' := 52) (ls' := [.val (.int k)]) (st' := [.int 247, .int k]) rfl ?_
          refine wp_icmp C 28 60 55 rfl rfl rfl (by decide) (fun (h4 : (k : Int32) = 247) => ?_) (fun (h4 : (k : Int32) ≠ 247) => ?_)
          · refine wp_blk C 33 2 (pc' := 64) (ls' := [.val (.int k)]) (st' := [.int 192, .int k]) rfl ?_
            refine wp_icmp C 35 86 67 rfl rfl rfl (by decide) (fun (h5 : (k : Int32).toInt < (192 : Int32).toInt) => ?_) (fun (h5 : (192 : Int32).toInt ≤ (k : Int32).toInt) => ?_)
            · rw [show (192 : Int32).toInt = 192 from rfl] at h5
              refine wp_blk C 46 1 (pc' := 87) (ls' := [.val (.int k)]) (st' := [.int k]) rfl ?_
              exact wp_retI C 47 rfl (by decide) (by decide) (⟨k, rfl, hk, rfl⟩)
            · rw [show (192 : Int32).toInt = 192 from rfl] at h5
              refine wp_blk C 36 2 (pc' := 71) (ls' := [.val (.int k)]) (st' := [.int 222, .int k]) rfl ?_
              refine wp_icmp C 38 86 74 rfl rfl rfl (by decide) (fun (h6 : (222 : Int32).toInt < (k : Int32).toInt) => ?_) (fun (h6 : (k : Int32).toInt ≤ (222 : Int32).toInt) => ?_)
              · rw [show (222 : Int32).toInt = 222 from rfl] at h6
                refine wp_blk C 46 1 (pc' := 87) (ls' := [.val (.int k)]) (st' := [.int k]) rfl ?_
                exact wp_retI C 47 rfl (by decide) (by decide) (⟨k, rfl, hk, rfl⟩)
              · rw [show (222 : Int32).toInt = 222 from rfl] at h6
                refine wp_blk C 39 2 (pc' := 78) (ls' := [.val (.int k)]) (st' := [.int 215, .int k]) rfl ?_
                refine wp_icmp C 41 86 81 rfl rfl rfl (by decide) (fun (h7 : (k : Int32) = 215) => ?_) (fun (h7 : (k : Int32) ≠ 215) => ?_)
                · refine wp_blk C 46 1 (pc' := 87) (ls' := [.val (.int k)]) (st' := [.int k]) rfl ?_
                  exact wp_retI C 47 rfl (by decide) (by decide) (⟨k, rfl, hk, rfl⟩)
                · refine wp_blk C 42 3 (pc' := 85) (ls' := [.val (.int k)]) (st' := [.int (k + 32)]) rfl ?_
                  obtain ⟨r, hr⟩ : ∃ nn0 : Int32, nn0 = k + 32 := ⟨_, rfl⟩
                  rw [← hr]
                  have Hr : r.toInt = k.toInt + 32 := by rw [hr]; exact addI rfl rfl (by omega) (by omega)
                  exact wp_retI C 45 rfl (by decide) (by decide) (⟨r, rfl, ⟨by omega, by omega⟩, rfl⟩)
          · refine wp_blk C 29 3 (pc' := 59) (ls' := [.val (.int k)]) (st' := [.int (k - 32)]) rfl ?_
            obtain ⟨r, hr⟩ : ∃ nn0 : Int32, nn0 = k - 32 := ⟨_, rfl⟩
            rw [← hr]
            have Hr : r.toInt = k.toInt - 32 := by rw [hr]; exact subI rfl rfl (by omega) (by omega)
            exact wp_retI C 32 rfl (by decide) (by decide) (⟨r, rfl, ⟨by omega, by omega⟩, rfl⟩)
    · rw [show (65 : Int32).toInt = 65 from rfl] at h1
      refine wp_blk C 13 2 (pc' := 26) (ls' := [.val (.int k)]) (st' := [.int 90, .int k]) rfl ?_
      refine wp_icmp C 15 34 29 rfl rfl rfl (by decide) (fun (h2 : (90 : Int32).toInt < (k : Int32).toInt) => ?_) (fun (h2 : (k : Int32).toInt ≤ (90 : Int32).toInt) => ?_)
      · rw [show (90 : Int32).toInt = 90 from rfl] at h2
        refine wp_blk C 20 2 (pc' := 38) (ls' := [.val (.int k)]) (st' := [.int 224, .int k]) rfl ?_
        refine wp_icmp C 22 60 41 rfl rfl rfl (by decide) (fun (h3 : (k : Int32).toInt < (224 : Int32).toInt) => ?_) (fun (h3 : (224 : Int32).toInt ≤ (k : Int32).toInt) => ?_)
        · rw [show (224 : Int32).toInt = 224 from rfl] at h3
          refine wp_blk C 33 2 (pc' := 64) (ls' := [.val (.int k)]) (st' := [.int 192, .int k]) rfl ?_
          refine wp_icmp C 35 86 67 rfl rfl rfl (by decide) (fun (h4 : (k : Int32).toInt < (192 : Int32).toInt) => ?_) (fun (h4 : (192 : Int32).toInt ≤ (k : Int32).toInt) => ?_)
          · rw [show (192 : Int32).toInt = 192 from rfl] at h4
            refine wp_blk C 46 1 (pc' := 87) (ls' := [.val (.int k)]) (st' := [.int k]) rfl ?_
            exact wp_retI C 47 rfl (by decide) (by decide) (⟨k, rfl, hk, rfl⟩)
          · rw [show (192 : Int32).toInt = 192 from rfl] at h4
            refine wp_blk C 36 2 (pc' := 71) (ls' := [.val (.int k)]) (st' := [.int 222, .int k]) rfl ?_
            refine wp_icmp C 38 86 74 rfl rfl rfl (by decide) (fun (h5 : (222 : Int32).toInt < (k : Int32).toInt) => ?_) (fun (h5 : (k : Int32).toInt ≤ (222 : Int32).toInt) => ?_)
            · rw [show (222 : Int32).toInt = 222 from rfl] at h5
              refine wp_blk C 46 1 (pc' := 87) (ls' := [.val (.int k)]) (st' := [.int k]) rfl ?_
              exact wp_retI C 47 rfl (by decide) (by decide) (⟨k, rfl, hk, rfl⟩)
            · rw [show (222 : Int32).toInt = 222 from rfl] at h5
              refine wp_blk C 39 2 (pc' := 78) (ls' := [.val (.int k)]) (st' := [.int 215, .int k]) rfl ?_
              refine wp_icmp C 41 86 81 rfl rfl rfl (by decide) (fun (h6 : (k : Int32) = 215) => ?_) (fun (h6 : (k : Int32) ≠ 215) => ?_)
              · refine wp_blk C 46 1 (pc' := 87) (ls' := [.val (.int k)]) (st' := [.int k]) rfl ?_
                exact wp_retI C 47 rfl (by decide) (by decide) (⟨k, rfl, hk, rfl⟩)
              · refine wp_blk C 42 3 (pc' := 85) (ls' := [.val (.int k)]) (st' := [.int (k + 32)]) rfl ?_
                obtain ⟨r, hr⟩ : ∃ nn0 : Int32, nn0 = k + 32 := ⟨_, rfl⟩
                rw [← hr]
                have Hr : r.toInt = k.toInt + 32 := by rw [hr]; exact addI rfl rfl (by omega) (by omega)
                exact wp_retI C 45 rfl (by decide) (by decide) (⟨r, rfl, ⟨by omega, by omega⟩, rfl⟩)
        · rw [show (224 : Int32).toInt = 224 from rfl] at h3
          refine wp_blk C 23 2 (pc' := 45) (ls' := [.val (.int k)]) (st' := [.int 254, .int k]) rfl ?_
          refine wp_icmp C 25 60 48 rfl rfl rfl (by decide) (fun (h4 : (254 : Int32).toInt < (k : Int32).toInt) => ?_) (fun (h4 : (k : Int32).toInt ≤ (254 : Int32).toInt) => ?_)
          · rw [show (254 : Int32).toInt = 254 from rfl] at h4
            refine wp_blk C 33 2 (pc' := 64) (ls' := [.val (.int k)]) (st' := [.int 192, .int k]) rfl ?_
            refine wp_icmp C 35 86 67 rfl rfl rfl (by decide) (fun (h5 : (k : Int32).toInt < (192 : Int32).toInt) => ?_) (fun (h5 : (192 : Int32).toInt ≤ (k : Int32).toInt) => ?_)
            · rw [show (192 : Int32).toInt = 192 from rfl] at h5
              refine wp_blk C 46 1 (pc' := 87) (ls' := [.val (.int k)]) (st' := [.int k]) rfl ?_
              exact wp_retI C 47 rfl (by decide) (by decide) (⟨k, rfl, hk, rfl⟩)
            · rw [show (192 : Int32).toInt = 192 from rfl] at h5
              refine wp_blk C 36 2 (pc' := 71) (ls' := [.val (.int k)]) (st' := [.int 222, .int k]) rfl ?_
              refine wp_icmp C 38 86 74 rfl rfl rfl (by decide) (fun (h6 : (222 : Int32).toInt < (k : Int32).toInt) => ?_) (fun (h6 : (k : Int32).toInt ≤ (222 : Int32).toInt) => ?_)
              · rw [show (222 : Int32).toInt = 222 from rfl] at h6
                refine wp_blk C 46 1 (pc' := 87) (ls' := [.val (.int k)]) (st' := [.int k]) rfl ?_
                exact wp_retI C 47 rfl (by decide) (by decide) (⟨k, rfl, hk, rfl⟩)
              · rw [show (222 : Int32).toInt = 222 from rfl] at h6
                refine wp_blk C 39 2 (pc' := 78) (ls' := [.val (.int k)]) (st' := [.int 215, .int k]) rfl ?_
                refine wp_icmp C 41 86 81 rfl rfl rfl (by decide) (fun (h7 : (k : Int32) = 215) => ?_) (fun (h7 : (k : Int32) ≠ 215) => ?_)
                · refine wp_blk C 46 1 (pc' := 87) (ls' := [.val (.int k)]) (st' := [.int k]) rfl ?_
                  exact wp_retI C 47 rfl (by decide) (by decide) (⟨k, rfl, hk, rfl⟩)
                · refine wp_blk C 42 3 (pc' := 85) (ls' := [.val (.int k)]) (st' := [.int (k + 32)]) rfl ?_
                  obtain ⟨r, hr⟩ : ∃ nn0 : Int32, nn0 = k + 32 := ⟨_, rfl⟩
                  rw [← hr]
                  have Hr : r.toInt = k.toInt + 32 := by rw [hr]; exact addI rfl rfl (by omega) (by omega)
                  exact wp_retI C 45 rfl (by decide) (by decide) (⟨r, rfl, ⟨by omega, by omega⟩, rfl⟩)
          · rw [show (254 : Int32).toInt = 254 from rfl] at h4
            refine wp_blk C 26 2 (pc' := 52) (ls' := [.val (.int k)]) (st' := [.int 247, .int k]) rfl ?_
            refine wp_icmp C 28 60 55 rfl rfl rfl (by decide) (fun (h5 : (k : Int32) = 247) => ?_) (fun (h5 : (k : Int32) ≠ 247) => ?_)
            · refine wp_blk C 33 2 (pc' := 64) (ls' := [.val (.int k)]) (st' := [.int 192, .int k]) rfl ?_
              refine wp_icmp C 35 86 67 rfl rfl rfl (by decide) (fun (h6 : (k : Int32).toInt < (192 : Int32).toInt) => ?_) (fun (h6 : (192 : Int32).toInt ≤ (k : Int32).toInt) => ?_)
              · rw [show (192 : Int32).toInt = 192 from rfl] at h6
                refine wp_blk C 46 1 (pc' := 87) (ls' := [.val (.int k)]) (st' := [.int k]) rfl ?_
                exact wp_retI C 47 rfl (by decide) (by decide) (⟨k, rfl, hk, rfl⟩)
              · rw [show (192 : Int32).toInt = 192 from rfl] at h6
                refine wp_blk C 36 2 (pc' := 71) (ls' := [.val (.int k)]) (st' := [.int 222, .int k]) rfl ?_
                refine wp_icmp C 38 86 74 rfl rfl rfl (by decide) (fun (h7 : (222 : Int32).toInt < (k : Int32).toInt) => ?_) (fun (h7 : (k : Int32).toInt ≤ (222 : Int32).toInt) => ?_)
                · rw [show (222 : Int32).toInt = 222 from rfl] at h7
                  refine wp_blk C 46 1 (pc' := 87) (ls' := [.val (.int k)]) (st' := [.int k]) rfl ?_
                  exact wp_retI C 47 rfl (by decide) (by decide) (⟨k, rfl, hk, rfl⟩)
                · rw [show (222 : Int32).toInt = 222 from rfl] at h7
                  refine wp_blk C 39 2 (pc' := 78) (ls' := [.val (.int k)]) (st' := [.int 215, .int k]) rfl ?_
                  refine wp_icmp C 41 86 81 rfl rfl rfl (by decide) (fun (h8 : (k : Int32) = 215) => ?_) (fun (h8 : (k : Int32) ≠ 215) => ?_)
                  · refine wp_blk C 46 1 (pc' := 87) (ls' := [.val (.int k)]) (st' := [.int k]) rfl ?_
                    exact wp_retI C 47 rfl (by decide) (by decide) (⟨k, rfl, hk, rfl⟩)
                  · refine wp_blk C 42 3 (pc' := 85) (ls' := [.val (.int k)]) (st' := [.int (k + 32)]) rfl ?_
                    obtain ⟨r, hr⟩ : ∃ nn0 : Int32, nn0 = k + 32 := ⟨_, rfl⟩
                    rw [← hr]
                    have Hr : r.toInt = k.toInt + 32 := by rw [hr]; exact addI rfl rfl (by omega) (by omega)
                    exact wp_retI C 45 rfl (by decide) (by decide) (⟨r, rfl, ⟨by omega, by omega⟩, rfl⟩)
            · refine wp_blk C 29 3 (pc' := 59) (ls' := [.val (.int k)]) (st' := [.int (k - 32)]) rfl ?_
              obtain ⟨r, hr⟩ : ∃ nn0 : Int32, nn0 = k - 32 := ⟨_, rfl⟩
              rw [← hr]
              have Hr : r.toInt = k.toInt - 32 := by rw [hr]; exact subI rfl rfl (by omega) (by omega)
              exact wp_retI C 32 rfl (by decide) (by decide) (⟨r, rfl, ⟨by omega, by omega⟩, rfl⟩)
      · rw [show (90 : Int32).toInt = 90 from rfl] at h2
        refine wp_blk C 16 3 (pc' := 33) (ls' := [.val (.int k)]) (st' := [.int (k + 32)]) rfl ?_
        obtain ⟨r, hr⟩ : ∃ nn0 : Int32, nn0 = k + 32 := ⟨_, rfl⟩
        rw [← hr]
        have Hr : r.toInt = k.toInt + 32 := by rw [hr]; exact addI rfl rfl (by omega) (by omega)
        exact wp_retI C 19 rfl (by decide) (by decide) (⟨r, rfl, ⟨by omega, by omega⟩, rfl⟩)
  · rw [show (97 : Int32).toInt = 97 from rfl] at h0
    refine wp_blk C 3 2 (pc' := 9) (ls' := [.val (.int k)]) (st' := [.int 122, .int k]) rfl ?_
    refine wp_icmp C 5 17 12 rfl rfl rfl (by decide) (fun (h1 : (122 : Int32).toInt < (k : Int32).toInt) => ?_) (fun (h1 : (k : Int32).toInt ≤ (122 : Int32).toInt) => ?_)
    · rw [show (122 : Int32).toInt = 122 from rfl] at h1
      refine wp_blk C 10 2 (pc' := 20) (ls' := [.val (.int k)]) (st' := [.int 65, .int k]) rfl ?_
      refine wp_icmp C 12 34 23 rfl rfl rfl (by decide) (fun (h2 : (k : Int32).toInt < (65 : Int32).toInt) => ?_) (fun (h2 : (65 : Int32).toInt ≤ (k : Int32).toInt) => ?_)
      · rw [show (65 : Int32).toInt = 65 from rfl] at h2
        refine wp_blk C 20 2 (pc' := 38) (ls' := [.val (.int k)]) (st' := [.int 224, .int k]) rfl ?_
        refine wp_icmp C 22 60 41 rfl rfl rfl (by decide) (fun (h3 : (k : Int32).toInt < (224 : Int32).toInt) => ?_) (fun (h3 : (224 : Int32).toInt ≤ (k : Int32).toInt) => ?_)
        · rw [show (224 : Int32).toInt = 224 from rfl] at h3
          refine wp_blk C 33 2 (pc' := 64) (ls' := [.val (.int k)]) (st' := [.int 192, .int k]) rfl ?_
          refine wp_icmp C 35 86 67 rfl rfl rfl (by decide) (fun (h4 : (k : Int32).toInt < (192 : Int32).toInt) => ?_) (fun (h4 : (192 : Int32).toInt ≤ (k : Int32).toInt) => ?_)
          · rw [show (192 : Int32).toInt = 192 from rfl] at h4
            refine wp_blk C 46 1 (pc' := 87) (ls' := [.val (.int k)]) (st' := [.int k]) rfl ?_
            exact wp_retI C 47 rfl (by decide) (by decide) (⟨k, rfl, hk, rfl⟩)
          · rw [show (192 : Int32).toInt = 192 from rfl] at h4
            refine wp_blk C 36 2 (pc' := 71) (ls' := [.val (.int k)]) (st' := [.int 222, .int k]) rfl ?_
            refine wp_icmp C 38 86 74 rfl rfl rfl (by decide) (fun (h5 : (222 : Int32).toInt < (k : Int32).toInt) => ?_) (fun (h5 : (k : Int32).toInt ≤ (222 : Int32).toInt) => ?_)
            · rw [show (222 : Int32).toInt = 222 from rfl] at h5
              refine wp_blk C 46 1 (pc' := 87) (ls' := [.val (.int k)]) (st' := [.int k]) rfl ?_
              exact wp_retI C 47 rfl (by decide) (by decide) (⟨k, rfl, hk, rfl⟩)
            · rw [show (222 : Int32).toInt = 222 from rfl] at h5
              refine wp_blk C 39 2 (pc' := 78) (ls' := [.val (.int k)]) (st' := [.int 215, .int k]) rfl ?_
              refine wp_icmp C 41 86 81 rfl rfl rfl (by decide) (fun (h6 : (k : Int32) = 215) => ?_) (fun (h6 : (k : Int32) ≠ 215) => ?_)
              · refine wp_blk C 46 1 (pc' := 87) (ls' := [.val (.int k)]) (st' := [.int k]) rfl ?_
                exact wp_retI C 47 rfl (by decide) (by decide) (⟨k, rfl, hk, rfl⟩)
              · refine wp_blk C 42 3 (pc' := 85) (ls' := [.val (.int k)]) (st' := [.int (k + 32)]) rfl ?_
                obtain ⟨r, hr⟩ : ∃ nn0 : Int32, nn0 = k + 32 := ⟨_, rfl⟩
                rw [← hr]
                have Hr : r.toInt = k.toInt + 32 := by rw [hr]; exact addI rfl rfl (by omega) (by omega)
                exact wp_retI C 45 rfl (by decide) (by decide) (⟨r, rfl, ⟨by omega, by omega⟩, rfl⟩)
        · rw [show (224 : Int32).toInt = 224 from rfl] at h3
          refine wp_blk C 23 2 (pc' := 45) (ls' := [.val (.int k)]) (st' := [.int 254, .int k]) rfl ?_
          refine wp_icmp C 25 60 48 rfl rfl rfl (by decide) (fun (h4 : (254 : Int32).toInt < (k : Int32).toInt) => ?_) (fun (h4 : (k : Int32).toInt ≤ (254 : Int32).toInt) => ?_)
          · rw [show (254 : Int32).toInt = 254 from rfl] at h4
            refine wp_blk C 33 2 (pc' := 64) (ls' := [.val (.int k)]) (st' := [.int 192, .int k]) rfl ?_
            refine wp_icmp C 35 86 67 rfl rfl rfl (by decide) (fun (h5 : (k : Int32).toInt < (192 : Int32).toInt) => ?_) (fun (h5 : (192 : Int32).toInt ≤ (k : Int32).toInt) => ?_)
            · rw [show (192 : Int32).toInt = 192 from rfl] at h5
              refine wp_blk C 46 1 (pc' := 87) (ls' := [.val (.int k)]) (st' := [.int k]) rfl ?_
              exact wp_retI C 47 rfl (by decide) (by decide) (⟨k, rfl, hk, rfl⟩)
            · rw [show (192 : Int32).toInt = 192 from rfl] at h5
              refine wp_blk C 36 2 (pc' := 71) (ls' := [.val (.int k)]) (st' := [.int 222, .int k]) rfl ?_
              refine wp_icmp C 38 86 74 rfl rfl rfl (by decide) (fun (h6 : (222 : Int32).toInt < (k : Int32).toInt) => ?_) (fun (h6 : (k : Int32).toInt ≤ (222 : Int32).toInt) => ?_)
              · rw [show (222 : Int32).toInt = 222 from rfl] at h6
                refine wp_blk C 46 1 (pc' := 87) (ls' := [.val (.int k)]) (st' := [.int k]) rfl ?_
                exact wp_retI C 47 rfl (by decide) (by decide) (⟨k, rfl, hk, rfl⟩)
              · rw [show (222 : Int32).toInt = 222 from rfl] at h6
                refine wp_blk C 39 2 (pc' := 78) (ls' := [.val (.int k)]) (st' := [.int 215, .int k]) rfl ?_
                refine wp_icmp C 41 86 81 rfl rfl rfl (by decide) (fun (h7 : (k : Int32) = 215) => ?_) (fun (h7 : (k : Int32) ≠ 215) => ?_)
                · refine wp_blk C 46 1 (pc' := 87) (ls' := [.val (.int k)]) (st' := [.int k]) rfl ?_
                  exact wp_retI C 47 rfl (by decide) (by decide) (⟨k, rfl, hk, rfl⟩)
                · refine wp_blk C 42 3 (pc' := 85) (ls' := [.val (.int k)]) (st' := [.int (k + 32)]) rfl ?_
                  obtain ⟨r, hr⟩ : ∃ nn0 : Int32, nn0 = k + 32 := ⟨_, rfl⟩
                  rw [← hr]
                  have Hr : r.toInt = k.toInt + 32 := by rw [hr]; exact addI rfl rfl (by omega) (by omega)
                  exact wp_retI C 45 rfl (by decide) (by decide) (⟨r, rfl, ⟨by omega, by omega⟩, rfl⟩)
          · rw [show (254 : Int32).toInt = 254 from rfl] at h4
            refine wp_blk C 26 2 (pc' := 52) (ls' := [.val (.int k)]) (st' := [.int 247, .int k]) rfl ?_
            refine wp_icmp C 28 60 55 rfl rfl rfl (by decide) (fun (h5 : (k : Int32) = 247) => ?_) (fun (h5 : (k : Int32) ≠ 247) => ?_)
            · refine wp_blk C 33 2 (pc' := 64) (ls' := [.val (.int k)]) (st' := [.int 192, .int k]) rfl ?_
              refine wp_icmp C 35 86 67 rfl rfl rfl (by decide) (fun (h6 : (k : Int32).toInt < (192 : Int32).toInt) => ?_) (fun (h6 : (192 : Int32).toInt ≤ (k : Int32).toInt) => ?_)
              · rw [show (192 : Int32).toInt = 192 from rfl] at h6
                refine wp_blk C 46 1 (pc' := 87) (ls' := [.val (.int k)]) (st' := [.int k]) rfl ?_
                exact wp_retI C 47 rfl (by decide) (by decide) (⟨k, rfl, hk, rfl⟩)
              · rw [show (192 : Int32).toInt = 192 from rfl] at h6
                refine wp_blk C 36 2 (pc' := 71) (ls' := [.val (.int k)]) (st' := [.int 222, .int k]) rfl ?_
                refine wp_icmp C 38 86 74 rfl rfl rfl (by decide) (fun (h7 : (222 : Int32).toInt < (k : Int32).toInt) => ?_) (fun (h7 : (k : Int32).toInt ≤ (222 : Int32).toInt) => ?_)
                · rw [show (222 : Int32).toInt = 222 from rfl] at h7
                  refine wp_blk C 46 1 (pc' := 87) (ls' := [.val (.int k)]) (st' := [.int k]) rfl ?_
                  exact wp_retI C 47 rfl (by decide) (by decide) (⟨k, rfl, hk, rfl⟩)
                · rw [show (222 : Int32).toInt = 222 from rfl] at h7
                  refine wp_blk C 39 2 (pc' := 78) (ls' := [.val (.int k)]) (st' := [.int 215, .int k]) rfl ?_
                  refine wp_icmp C 41 86 81 rfl rfl rfl (by decide) (fun (h8 : (k : Int32) = 215) => ?_) (fun (h8 : (k : Int32) ≠ 215) => ?_)
                  · refine wp_blk C 46 1 (pc' := 87) (ls' := [.val (.int k)]) (st' := [.int k]) rfl ?_
                    exact wp_retI C 47 rfl (by decide) (by decide) (⟨k, rfl, hk, rfl⟩)
                  · refine wp_blk C 42 3 (pc' := 85) (ls' := [.val (.int k)]) (st' := [.int (k + 32)]) rfl ?_
                    obtain ⟨r, hr⟩ : ∃ nn0 : Int32, nn0 = k + 32 := ⟨_, rfl⟩
                    rw [← hr]
                    have Hr : r.toInt = k.toInt + 32 := by rw [hr]; exact addI rfl rfl (by omega) (by omega)
                    exact wp_retI C 45 rfl (by decide) (by decide) (⟨r, rfl, ⟨by omega, by omega⟩, rfl⟩)
            · refine wp_blk C 29 3 (pc' := 59) (ls' := [.val (.int k)]) (st' := [.int (k - 32)]) rfl ?_
              obtain ⟨r, hr⟩ : ∃ nn0 : Int32, nn0 = k - 32 := ⟨_, rfl⟩
              rw [← hr]
              have Hr : r.toInt = k.toInt - 32 := by rw [hr]; exact subI rfl rfl (by omega) (by omega)
              exact wp_retI C 32 rfl (by decide) (by decide) (⟨r, rfl, ⟨by omega, by omega⟩, rfl⟩)
      · rw [show (65 : Int32).toInt = 65 from rfl] at h2
        refine wp_blk C 13 2 (pc' := 26) (ls' := [.val (.int k)]) (st' := [.int 90, .int k]) rfl ?_
        refine wp_icmp C 15 34 29 rfl rfl rfl (by decide) (fun (h3 : (90 : Int32).toInt < (k : Int32).toInt) => ?_) (fun (h3 : (k : Int32).toInt ≤ (90 : Int32).toInt) => ?_)
        · rw [show (90 : Int32).toInt = 90 from rfl] at h3
          refine wp_blk C 20 2 (pc' := 38) (ls' := [.val (.int k)]) (st' := [.int 224, .int k]) rfl ?_
          refine wp_icmp C 22 60 41 rfl rfl rfl (by decide) (fun (h4 : (k : Int32).toInt < (224 : Int32).toInt) => ?_) (fun (h4 : (224 : Int32).toInt ≤ (k : Int32).toInt) => ?_)
          · rw [show (224 : Int32).toInt = 224 from rfl] at h4
            refine wp_blk C 33 2 (pc' := 64) (ls' := [.val (.int k)]) (st' := [.int 192, .int k]) rfl ?_
            refine wp_icmp C 35 86 67 rfl rfl rfl (by decide) (fun (h5 : (k : Int32).toInt < (192 : Int32).toInt) => ?_) (fun (h5 : (192 : Int32).toInt ≤ (k : Int32).toInt) => ?_)
            · rw [show (192 : Int32).toInt = 192 from rfl] at h5
              refine wp_blk C 46 1 (pc' := 87) (ls' := [.val (.int k)]) (st' := [.int k]) rfl ?_
              exact wp_retI C 47 rfl (by decide) (by decide) (⟨k, rfl, hk, rfl⟩)
            · rw [show (192 : Int32).toInt = 192 from rfl] at h5
              refine wp_blk C 36 2 (pc' := 71) (ls' := [.val (.int k)]) (st' := [.int 222, .int k]) rfl ?_
              refine wp_icmp C 38 86 74 rfl rfl rfl (by decide) (fun (h6 : (222 : Int32).toInt < (k : Int32).toInt) => ?_) (fun (h6 : (k : Int32).toInt ≤ (222 : Int32).toInt) => ?_)
              · rw [show (222 : Int32).toInt = 222 from rfl] at h6
                refine wp_blk C 46 1 (pc' := 87) (ls' := [.val (.int k)]) (st' := [.int k]) rfl ?_
                exact wp_retI C 47 rfl (by decide) (by decide) (⟨k, rfl, hk, rfl⟩)
              · rw [show (222 : Int32).toInt = 222 from rfl] at h6
                refine wp_blk C 39 2 (pc' := 78) (ls' := [.val (.int k)]) (st' := [.int 215, .int k]) rfl ?_
                refine wp_icmp C 41 86 81 rfl rfl rfl (by decide) (fun (h7 : (k : Int32) = 215) => ?_) (fun (h7 : (k : Int32) ≠ 215) => ?_)
                · refine wp_blk C 46 1 (pc' := 87) (ls' := [.val (.int k)]) (st' := [.int k]) rfl ?_
                  exact wp_retI C 47 rfl (by decide) (by decide) (⟨k, rfl, hk, rfl⟩)
                · refine wp_blk C 42 3 (pc' := 85) (ls' := [.val (.int k)]) (st' := [.int (k + 32)]) rfl ?_
                  obtain ⟨r, hr⟩ : ∃ nn0 : Int32, nn0 = k + 32 := ⟨_, rfl⟩
                  rw [← hr]
                  have Hr : r.toInt = k.toInt + 32 := by rw [hr]; exact addI rfl rfl (by omega) (by omega)
                  exact wp_retI C 45 rfl (by decide) (by decide) (⟨r, rfl, ⟨by omega, by omega⟩, rfl⟩)
          · rw [show (224 : Int32).toInt = 224 from rfl] at h4
            refine wp_blk C 23 2 (pc' := 45) (ls' := [.val (.int k)]) (st' := [.int 254, .int k]) rfl ?_
            refine wp_icmp C 25 60 48 rfl rfl rfl (by decide) (fun (h5 : (254 : Int32).toInt < (k : Int32).toInt) => ?_) (fun (h5 : (k : Int32).toInt ≤ (254 : Int32).toInt) => ?_)
            · rw [show (254 : Int32).toInt = 254 from rfl] at h5
              refine wp_blk C 33 2 (pc' := 64) (ls' := [.val (.int k)]) (st' := [.int 192, .int k]) rfl ?_
              refine wp_icmp C 35 86 67 rfl rfl rfl (by decide) (fun (h6 : (k : Int32).toInt < (192 : Int32).toInt) => ?_) (fun (h6 : (192 : Int32).toInt ≤ (k : Int32).toInt) => ?_)
              · rw [show (192 : Int32).toInt = 192 from rfl] at h6
                refine wp_blk C 46 1 (pc' := 87) (ls' := [.val (.int k)]) (st' := [.int k]) rfl ?_
                exact wp_retI C 47 rfl (by decide) (by decide) (⟨k, rfl, hk, rfl⟩)
              · rw [show (192 : Int32).toInt = 192 from rfl] at h6
                refine wp_blk C 36 2 (pc' := 71) (ls' := [.val (.int k)]) (st' := [.int 222, .int k]) rfl ?_
                refine wp_icmp C 38 86 74 rfl rfl rfl (by decide) (fun (h7 : (222 : Int32).toInt < (k : Int32).toInt) => ?_) (fun (h7 : (k : Int32).toInt ≤ (222 : Int32).toInt) => ?_)
                · rw [show (222 : Int32).toInt = 222 from rfl] at h7
                  refine wp_blk C 46 1 (pc' := 87) (ls' := [.val (.int k)]) (st' := [.int k]) rfl ?_
                  exact wp_retI C 47 rfl (by decide) (by decide) (⟨k, rfl, hk, rfl⟩)
                · rw [show (222 : Int32).toInt = 222 from rfl] at h7
                  refine wp_blk C 39 2 (pc' := 78) (ls' := [.val (.int k)]) (st' := [.int 215, .int k]) rfl ?_
                  refine wp_icmp C 41 86 81 rfl rfl rfl (by decide) (fun (h8 : (k : Int32) = 215) => ?_) (fun (h8 : (k : Int32) ≠ 215) => ?_)
                  · refine wp_blk C 46 1 (pc' := 87) (ls' := [.val (.int k)]) (st' := [.int k]) rfl ?_
                    exact wp_retI C 47 rfl (by decide) (by decide) (⟨k, rfl, hk, rfl⟩)
                  · refine wp_blk C 42 3 (pc' := 85) (ls' := [.val (.int k)]) (st' := [.int (k + 32)]) rfl ?_
                    obtain ⟨r, hr⟩ : ∃ nn0 : Int32, nn0 = k + 32 := ⟨_, rfl⟩
                    rw [← hr]
                    have Hr : r.toInt = k.toInt + 32 := by rw [hr]; exact addI rfl rfl (by omega) (by omega)
                    exact wp_retI C 45 rfl (by decide) (by decide) (⟨r, rfl, ⟨by omega, by omega⟩, rfl⟩)
            · rw [show (254 : Int32).toInt = 254 from rfl] at h5
              refine wp_blk C 26 2 (pc' := 52) (ls' := [.val (.int k)]) (st' := [.int 247, .int k]) rfl ?_
              refine wp_icmp C 28 60 55 rfl rfl rfl (by decide) (fun (h6 : (k : Int32) = 247) => ?_) (fun (h6 : (k : Int32) ≠ 247) => ?_)
              · refine wp_blk C 33 2 (pc' := 64) (ls' := [.val (.int k)]) (st' := [.int 192, .int k]) rfl ?_
                refine wp_icmp C 35 86 67 rfl rfl rfl (by decide) (fun (h7 : (k : Int32).toInt < (192 : Int32).toInt) => ?_) (fun (h7 : (192 : Int32).toInt ≤ (k : Int32).toInt) => ?_)
                · rw [show (192 : Int32).toInt = 192 from rfl] at h7
                  refine wp_blk C 46 1 (pc' := 87) (ls' := [.val (.int k)]) (st' := [.int k]) rfl ?_
                  exact wp_retI C 47 rfl (by decide) (by decide) (⟨k, rfl, hk, rfl⟩)
                · rw [show (192 : Int32).toInt = 192 from rfl] at h7
                  refine wp_blk C 36 2 (pc' := 71) (ls' := [.val (.int k)]) (st' := [.int 222, .int k]) rfl ?_
                  refine wp_icmp C 38 86 74 rfl rfl rfl (by decide) (fun (h8 : (222 : Int32).toInt < (k : Int32).toInt) => ?_) (fun (h8 : (k : Int32).toInt ≤ (222 : Int32).toInt) => ?_)
                  · rw [show (222 : Int32).toInt = 222 from rfl] at h8
                    refine wp_blk C 46 1 (pc' := 87) (ls' := [.val (.int k)]) (st' := [.int k]) rfl ?_
                    exact wp_retI C 47 rfl (by decide) (by decide) (⟨k, rfl, hk, rfl⟩)
                  · rw [show (222 : Int32).toInt = 222 from rfl] at h8
                    refine wp_blk C 39 2 (pc' := 78) (ls' := [.val (.int k)]) (st' := [.int 215, .int k]) rfl ?_
                    refine wp_icmp C 41 86 81 rfl rfl rfl (by decide) (fun (h9 : (k : Int32) = 215) => ?_) (fun (h9 : (k : Int32) ≠ 215) => ?_)
                    · refine wp_blk C 46 1 (pc' := 87) (ls' := [.val (.int k)]) (st' := [.int k]) rfl ?_
                      exact wp_retI C 47 rfl (by decide) (by decide) (⟨k, rfl, hk, rfl⟩)
                    · refine wp_blk C 42 3 (pc' := 85) (ls' := [.val (.int k)]) (st' := [.int (k + 32)]) rfl ?_
                      obtain ⟨r, hr⟩ : ∃ nn0 : Int32, nn0 = k + 32 := ⟨_, rfl⟩
                      rw [← hr]
                      have Hr : r.toInt = k.toInt + 32 := by rw [hr]; exact addI rfl rfl (by omega) (by omega)
                      exact wp_retI C 45 rfl (by decide) (by decide) (⟨r, rfl, ⟨by omega, by omega⟩, rfl⟩)
              · refine wp_blk C 29 3 (pc' := 59) (ls' := [.val (.int k)]) (st' := [.int (k - 32)]) rfl ?_
                obtain ⟨r, hr⟩ : ∃ nn0 : Int32, nn0 = k - 32 := ⟨_, rfl⟩
                rw [← hr]
                have Hr : r.toInt = k.toInt - 32 := by rw [hr]; exact subI rfl rfl (by omega) (by omega)
                exact wp_retI C 32 rfl (by decide) (by decide) (⟨r, rfl, ⟨by omega, by omega⟩, rfl⟩)
        · rw [show (90 : Int32).toInt = 90 from rfl] at h3
          refine wp_blk C 16 3 (pc' := 33) (ls' := [.val (.int k)]) (st' := [.int (k + 32)]) rfl ?_
          obtain ⟨r, hr⟩ : ∃ nn0 : Int32, nn0 = k + 32 := ⟨_, rfl⟩
          rw [← hr]
          have Hr : r.toInt = k.toInt + 32 := by rw [hr]; exact addI rfl rfl (by omega) (by omega)
          exact wp_retI C 19 rfl (by decide) (by decide) (⟨r, rfl, ⟨by omega, by omega⟩, rfl⟩)
    · rw [show (122 : Int32).toInt = 122 from rfl] at h1
      refine wp_blk C 6 3 (pc' := 16) (ls' := [.val (.int k)]) (st' := [.int (k - 32)]) rfl ?_
      obtain ⟨r, hr⟩ : ∃ nn0 : Int32, nn0 = k - 32 := ⟨_, rfl⟩
      rw [← hr]
      have Hr : r.toInt = k.toInt - 32 := by rw [hr]; exact subI rfl rfl (by omega) (by omega)
      exact wp_retI C 9 rfl (by decide) (by decide) (⟨r, rfl, ⟨by omega, by omega⟩, rfl⟩)
theorem pn33 : plainFor (⟨"com/example/remitter/remitter/MediaTypeIsPinLaw", "ch", "(IJII)I"⟩ : MethodName) = true := by first | (refine plainFor_of_name ?_; simp [plainName, overriddenIn]; done) | (refine plainFor_of_name ?_; decide +kernel) | decide +kernel
theorem pd21 : parseMethodDescriptor "(I)I" = some ⟨[.int], (some .int)⟩ := by decide +kernel
def B_rm_ch : Prog := [(0, .iload_n 3, 1), (1, .iconst 4, 1), (2, .iload_n 0, 1), (3, .iadd, 1), (4, .iushr, 1), (5, .iconst 1, 1), (6, .iand, 1), (7, .ifCond .eq 15, 3), (10, .lload_n 1, 1), (11, .bipush 8, 2), (13, .iload_n 0, 1), (14, .imul, 1), (15, .lushr, 1), (16, .ldc2_w 34, 3), (19, .land, 1), (20, .l2i, 1), (21, .ireturn, 1), (22, .iload_n 3, 1), (23, .bipush 9, 2), (25, .iload_n 0, 1), (26, .iadd, 1), (27, .iushr, 1), (28, .iconst 1, 1), (29, .iand, 1), (30, .ifCond .eq 9, 3), (33, .iload 4, 2), (35, .invokestatic 36, 3), (38, .ireturn, 1), (39, .iload 4, 2), (41, .ireturn, 1)]
theorem B_rm_ch_ok : okB method_4_code B_rm_ch = true := by decide +kernel
set_option maxRecDepth 65536 in
set_option maxHeartbeats 40000000 in
theorem rm_ch (l : Launch) (Z : State) (a0 : Array Value) (hw : ∀ d ∈ tables_1, d.before a0 Z = true) (i : Int32) (fr : Int64) (mode g : Int32) (hg : 0 ≤ g.toInt ∧ g.toInt ≤ 255) : Ct l Z EL1 nw1 (⟨"com/example/remitter/remitter/MediaTypeIsPinLaw", "ch", "(IJII)I"⟩ : MethodName) method_4_code 5 (some .int) [] ({ frames := 1, cells := 0, slots := 0, locals := 12 } : Room) [.int i, .long fr, .int mode, .int g] [] (fun v L => ∃ r : Int32, v = some (.int r) ∧ (0 ≤ r.toInt ∧ r.toInt ≤ 255) ∧ L = []) := by
  refine ct_of pn33 (B := B_rm_ch) (ls := [.val (.int i), .val (.long fr), .second, .val (.int mode), .val (.int g)]) B_rm_ch_ok (ew1 hw) (fun m => by first | (simp [entryFrame, mkF, argsToLocals, Value.category]; done) | rfl) (fun K C => ?_)
  refine wp_blk C 0 7 (pc' := 7) (ls' := [.val (.int i), .val (.long fr), .second, .val (.int mode), .val (.int g)]) (st' := [.int ((ush mode (4 + i)) &&& 1)]) rfl ?_
  refine wp_ifz C 7 22 10 rfl rfl rfl (by decide) (fun (h0 : (((ush mode (4 + i)) &&& 1) : Int32) = 0) => ?_) (fun (h0 : (((ush mode (4 + i)) &&& 1) : Int32) ≠ 0) => ?_)
  · refine wp_blk C 17 7 (pc' := 30) (ls' := [.val (.int i), .val (.long fr), .second, .val (.int mode), .val (.int g)]) (st' := [.int ((ush mode (9 + i)) &&& 1)]) rfl ?_
    refine wp_ifz C 24 39 33 rfl rfl rfl (by decide) (fun (h1 : (((ush mode (9 + i)) &&& 1) : Int32) = 0) => ?_) (fun (h1 : (((ush mode (9 + i)) &&& 1) : Int32) ≠ 0) => ?_)
    · refine wp_blk C 28 1 (pc' := 41) (ls' := [.val (.int i), .val (.long fr), .second, .val (.int mode), .val (.int g)]) (st' := [.int g]) rfl ?_
      exact wp_retI C 29 rfl (by decide) (by decide) (⟨g, rfl, hg, rfl⟩)
    · refine wp_blk C 25 1 (pc' := 35) (ls' := [.val (.int i), .val (.long fr), .second, .val (.int mode), .val (.int g)]) (st' := [.int g]) rfl ?_
      refine wp_static C (al := [.int g]) (rest := []) (L1 := []) (W := 0) (cells' := 0) (slots' := 0) 26 38 (rm_flip l Z a0 hw g hg) rfl rfl (wd hw 203 rfl) (wd hw 204 rfl) (wd hw 205 rfl) (wd hw 2 rfl) (by decide) pd21 rfl rfl rfl rfl (by decide) (by decide) rfl rfl rfl (by decide) (by decide) (fun v L' hQ => ?_)
      obtain ⟨r, rfl, hr, rfl⟩ := hQ
      show Wp K 0 0 [] 38 [.val (.int i), .val (.long fr), .second, .val (.int mode), .val (.int g)] [.int r]
      exact wp_retI C 27 rfl (by decide) (by decide) (⟨r, rfl, hr, rfl⟩)
  · refine wp_blk C 8 5 (pc' := 16) (ls' := [.val (.int i), .val (.long fr), .second, .val (.int mode), .val (.int g)]) (st' := [.long (ushL fr (8 * i))]) rfl ?_
    refine wp_ldcJ C 13 19 rfl rfl (wd hw 202 rfl) ?_
    refine wp_blk C 14 2 (pc' := 21) (ls' := [.val (.int i), .val (.long fr), .second, .val (.int mode), .val (.int g)]) (st' := [.int (((ushL fr (8 * i)) &&& 255 : Int64).toInt32)]) rfl ?_
    exact wp_retI C 16 rfl (by decide) (by decide) (⟨_, rfl, by rw [l255]; exact lat_and _, rfl⟩)
theorem pn34 : plainFor (⟨"com/example/remitter/remitter/MediaTypeIsPinLaw", "same", "(IIII)Z"⟩ : MethodName) = true := by first | (refine plainFor_of_name ?_; simp [plainName, overriddenIn]; done) | (refine plainFor_of_name ?_; decide +kernel) | decide +kernel
def B_rm_same : Prog := [(0, .iload_n 0, 1), (1, .iload_n 1, 1), (2, .if_icmp .ge 14, 3), (5, .iload_n 2, 1), (6, .invokestatic 40, 3), (9, .iload_n 3, 1), (10, .invokestatic 40, 3), (13, .if_icmp .ne 7, 3), (16, .iconst 1, 1), (17, .goto 4, 3), (20, .iconst 0, 1), (21, .ireturn, 1)]
theorem B_rm_same_ok : okB method_7_code B_rm_same = true := by decide +kernel
set_option maxRecDepth 65536 in
set_option maxHeartbeats 40000000 in
theorem rm_same (l : Launch) (Z : State) (a0 : Array Value) (hw : ∀ d ∈ tables_1, d.before a0 Z = true) (i el e g : Int32) : Ct l Z EL1 nw1 (⟨"com/example/remitter/remitter/MediaTypeIsPinLaw", "same", "(IIII)Z"⟩ : MethodName) method_7_code 4 (some .boolean) [] ({ frames := 1, cells := 0, slots := 0, locals := 13 } : Room) [.int i, .int el, .int e, .int g] [] (fun v L => v = some (.int (if el.toInt ≤ i.toInt ∨ foldV e = foldV g then 1 else 0)) ∧ L = []) := by
  refine ct_of pn34 (B := B_rm_same) (ls := [.val (.int i), .val (.int el), .val (.int e), .val (.int g)]) B_rm_same_ok (ew1 hw) (fun m => by first | (simp [entryFrame, mkF, argsToLocals, Value.category]; done) | rfl) (fun K C => ?_)
  refine wp_blk C 0 2 (pc' := 2) (ls' := [.val (.int i), .val (.int el), .val (.int e), .val (.int g)]) (st' := [.int el, .int i]) rfl ?_
  refine wp_icmp C 2 16 5 rfl rfl rfl (by decide) (fun (h0 : (el : Int32).toInt ≤ (i : Int32).toInt) => ?_) (fun (h0 : (i : Int32).toInt < (el : Int32).toInt) => ?_)
  · refine wp_blk C 8 2 (pc' := 21) (ls' := [.val (.int i), .val (.int el), .val (.int e), .val (.int g)]) (st' := [.int 1]) rfl ?_
    exact wp_retN C (z' := 1) 11 rfl (Or.inl rfl) rfl (by decide) (by decide) (⟨by rw [if_pos (Or.inl h0)], rfl⟩)
  · refine wp_blk C 3 1 (pc' := 6) (ls' := [.val (.int i), .val (.int el), .val (.int e), .val (.int g)]) (st' := [.int e]) rfl ?_
    refine wp_static C (al := [.int e]) (rest := []) (L1 := []) (W := 0) (cells' := 0) (slots' := 0) 4 9 (rm_fold l Z a0 hw e) rfl rfl (wd hw 199 rfl) (wd hw 200 rfl) (wd hw 201 rfl) (wd hw 2 rfl) (by decide) pd21 rfl rfl rfl rfl (by decide) (by decide) rfl rfl rfl (by decide) (by decide) (fun v L' hQ => ?_)
    obtain ⟨rfl, rfl⟩ := hQ
    show Wp K 0 0 [] 9 [.val (.int i), .val (.int el), .val (.int e), .val (.int g)] [.int (foldV e)]
    refine wp_blk C 5 1 (pc' := 10) (ls' := [.val (.int i), .val (.int el), .val (.int e), .val (.int g)]) (st' := [.int g, .int (foldV e)]) rfl ?_
    refine wp_static C (al := [.int g]) (rest := [.int (foldV e)]) (L1 := []) (W := 1) (cells' := 0) (slots' := 0) 6 13 (rm_fold l Z a0 hw g) rfl rfl (wd hw 199 rfl) (wd hw 200 rfl) (wd hw 201 rfl) (wd hw 2 rfl) (by decide) pd21 rfl rfl rfl rfl (by decide) (by decide) rfl rfl rfl (by decide) (by decide) (fun v L' hQ => ?_)
    obtain ⟨rfl, rfl⟩ := hQ
    show Wp K 0 0 [] 13 [.val (.int i), .val (.int el), .val (.int e), .val (.int g)] [.int (foldV g), .int (foldV e)]
    refine wp_icmp C 7 20 16 rfl rfl rfl (by decide) (fun (h1 : ((foldV e) : Int32) ≠ (foldV g)) => ?_) (fun (h1 : ((foldV e) : Int32) = (foldV g)) => ?_)
    · refine wp_blk C 10 1 (pc' := 21) (ls' := [.val (.int i), .val (.int el), .val (.int e), .val (.int g)]) (st' := [.int 0]) rfl ?_
      exact wp_retN C (z' := 0) 11 rfl (Or.inl rfl) rfl (by decide) (by decide) (⟨by rw [if_neg (fun q => q.elim (fun q => by omega) h1)], rfl⟩)
    · refine wp_blk C 8 2 (pc' := 21) (ls' := [.val (.int i), .val (.int el), .val (.int e), .val (.int g)]) (st' := [.int 1]) rfl ?_
      exact wp_retN C (z' := 1) 11 rfl (Or.inl rfl) rfl (by decide) (by decide) (⟨by rw [if_pos (Or.inr h1)], rfl⟩)
theorem pn35 : plainFor (⟨"com/example/remitter/remitter/MediaTypeIsPinLaw", "str", "(IIIIII)Ljava/lang/String;"⟩ : MethodName) = true := by first | (refine plainFor_of_name ?_; simp [plainName, overriddenIn]; done) | (refine plainFor_of_name ?_; decide +kernel) | decide +kernel
theorem pd22 : parseMethodDescriptor "([C)V" = some ⟨[(.array .char)], none⟩ := by decide +kernel
def B_rm_sN : Prog := [(0, .iload_n 0, 1), (1, .ifCond .ne 14, 3), (4, .new 43, 3), (7, .dup, 1), (8, .iconst 0, 1), (9, .newarray .char, 2), (11, .invokespecial 45, 3), (14, .areturn, 1), (15, .iload_n 0, 1), (16, .iconst 1, 1), (17, .if_icmp .ne 19, 3), (20, .new 43, 3), (23, .dup, 1), (24, .iconst 1, 1), (25, .newarray .char, 2), (27, .dup, 1), (28, .iconst 0, 1), (29, .iload_n 1, 1), (30, .i2c, 1), (31, .castore, 1), (32, .invokespecial 45, 3), (35, .areturn, 1), (36, .iload_n 0, 1), (37, .iconst 2, 1), (38, .if_icmp .ne 24, 3), (41, .new 43, 3), (44, .dup, 1), (45, .iconst 2, 1), (46, .newarray .char, 2), (48, .dup, 1), (49, .iconst 0, 1), (50, .iload_n 1, 1), (51, .i2c, 1), (52, .castore, 1), (53, .dup, 1), (54, .iconst 1, 1), (55, .iload_n 2, 1), (56, .i2c, 1), (57, .castore, 1), (58, .invokespecial 45, 3), (61, .areturn, 1), (62, .iload_n 0, 1), (63, .iconst 3, 1), (64, .if_icmp .ne 29, 3), (67, .new 43, 3), (70, .dup, 1), (71, .iconst 3, 1), (72, .newarray .char, 2), (74, .dup, 1), (75, .iconst 0, 1), (76, .iload_n 1, 1), (77, .i2c, 1), (78, .castore, 1), (79, .dup, 1), (80, .iconst 1, 1), (81, .iload_n 2, 1), (82, .i2c, 1), (83, .castore, 1), (84, .dup, 1), (85, .iconst 2, 1), (86, .iload_n 3, 1), (87, .i2c, 1), (88, .castore, 1), (89, .invokespecial 45, 3), (92, .areturn, 1), (93, .iload_n 0, 1), (94, .iconst 4, 1), (95, .if_icmp .ne 35, 3), (98, .new 43, 3), (101, .dup, 1), (102, .iconst 4, 1), (103, .newarray .char, 2), (105, .dup, 1), (106, .iconst 0, 1), (107, .iload_n 1, 1), (108, .i2c, 1), (109, .castore, 1), (110, .dup, 1), (111, .iconst 1, 1), (112, .iload_n 2, 1), (113, .i2c, 1), (114, .castore, 1), (115, .dup, 1), (116, .iconst 2, 1), (117, .iload_n 3, 1), (118, .i2c, 1), (119, .castore, 1), (120, .dup, 1), (121, .iconst 3, 1), (122, .iload 4, 2), (124, .i2c, 1), (125, .castore, 1), (126, .invokespecial 45, 3), (129, .areturn, 1), (130, .new 43, 3), (133, .dup, 1), (134, .iconst 5, 1), (135, .newarray .char, 2), (137, .dup, 1), (138, .iconst 0, 1), (139, .iload_n 1, 1), (140, .i2c, 1), (141, .castore, 1), (142, .dup, 1), (143, .iconst 1, 1), (144, .iload_n 2, 1), (145, .i2c, 1), (146, .castore, 1), (147, .dup, 1), (148, .iconst 2, 1), (149, .iload_n 3, 1), (150, .i2c, 1), (151, .castore, 1), (152, .dup, 1), (153, .iconst 3, 1), (154, .iload 4, 2), (156, .i2c, 1), (157, .castore, 1), (158, .dup, 1), (159, .iconst 4, 1), (160, .iload 5, 2), (162, .i2c, 1), (163, .castore, 1), (164, .invokespecial 45, 3), (167, .areturn, 1)]
theorem B_rm_sN_ok : okB method_8_code B_rm_sN = true := by decide +kernel
set_option maxRecDepth 65536 in
set_option maxHeartbeats 40000000 in
theorem rm_sN (l : Launch) (Z : State) (a0 : Array Value) (hw : ∀ d ∈ tables_1, d.before a0 Z = true) (n a b k d e : Int32) (cz : Int32) (S1 : Sta Z Z.heap "java/lang/String" "COMPACT_STRINGS" "Z" (.int cz)) (hcz : cz ≠ 0) (ha : 0 ≤ a.toInt ∧ a.toInt ≤ 255) (hb : 0 ≤ b.toInt ∧ b.toInt ≤ 255) (hk : 0 ≤ k.toInt ∧ k.toInt ≤ 255) (hd : 0 ≤ d.toInt ∧ d.toInt ≤ 255) (he : 0 ≤ e.toInt ∧ e.toInt ≤ 255) : Ct l Z EL1 nw1 (⟨"com/example/remitter/remitter/MediaTypeIsPinLaw", "str", "(IIIIII)Ljava/lang/String;"⟩ : MethodName) method_8_code 6 (some (.object "java/lang/String")) [] ({ frames := 4, cells := 6, slots := 25, locals := 67 } : Room) [.int n, .int a, .int b, .int k, .int d, .int e] [] (fun v L => ∃ (sa vb : Addr) (u : Bool), v = some (.ref sa) ∧ L = [(sa, true, .inl kS, [.ref vb, .int 0]), (vb, u, .inr .byte, (strN n a b k d e).map bt)]) := by
  refine ct_of pn35 (B := B_rm_sN) (ls := [.val (.int n), .val (.int a), .val (.int b), .val (.int k), .val (.int d), .val (.int e)]) B_rm_sN_ok (ew1 hw) (fun m => by first | (simp [entryFrame, mkF, argsToLocals, Value.category]; done) | rfl) (fun K C => ?_)
  refine wp_blk C 0 1 (pc' := 1) (ls' := [.val (.int n), .val (.int a), .val (.int b), .val (.int k), .val (.int d), .val (.int e)]) (st' := [.int n]) rfl ?_
  refine wp_ifz C 1 15 4 rfl rfl rfl (by decide) (fun (q0 : (n : Int32) ≠ 0) => ?_) (fun (q0 : (n : Int32) = 0) => ?_)
  · refine wp_blk C 8 2 (pc' := 17) (ls' := [.val (.int n), .val (.int a), .val (.int b), .val (.int k), .val (.int d), .val (.int e)]) (st' := [.int 1, .int n]) rfl ?_
    refine wp_icmp C 10 36 20 rfl rfl rfl (by decide) (fun (q1 : (n : Int32) ≠ 1) => ?_) (fun (q1 : (n : Int32) = 1) => ?_)
    · refine wp_blk C 22 2 (pc' := 38) (ls' := [.val (.int n), .val (.int a), .val (.int b), .val (.int k), .val (.int d), .val (.int e)]) (st' := [.int 2, .int n]) rfl ?_
      refine wp_icmp C 24 62 41 rfl rfl rfl (by decide) (fun (q2 : (n : Int32) ≠ 2) => ?_) (fun (q2 : (n : Int32) = 2) => ?_)
      · refine wp_blk C 41 2 (pc' := 64) (ls' := [.val (.int n), .val (.int a), .val (.int b), .val (.int k), .val (.int d), .val (.int e)]) (st' := [.int 3, .int n]) rfl ?_
        refine wp_icmp C 43 93 67 rfl rfl rfl (by decide) (fun (q3 : (n : Int32) ≠ 3) => ?_) (fun (q3 : (n : Int32) = 3) => ?_)
        · refine wp_blk C 65 2 (pc' := 95) (ls' := [.val (.int n), .val (.int a), .val (.int b), .val (.int k), .val (.int d), .val (.int e)]) (st' := [.int 4, .int n]) rfl ?_
          refine wp_icmp C 67 130 98 rfl rfl rfl (by decide) (fun (q4 : (n : Int32) ≠ 4) => ?_) (fun (q4 : (n : Int32) = 4) => ?_)
          · refine wp_new C (Kc := kS) (cells' := 1) (slots' := 4) 94 133 rfl rfl (wd hw 10 rfl) (wd hw 11 rfl) (wd hw 12 rfl) (kS_ok hw) kS_df rfl rfl (by decide) (by decide) (fun sa => ?_)
            refine wp_blk C 95 2 (pc' := 135) (ls' := [.val (.int n), .val (.int a), .val (.int b), .val (.int k), .val (.int d), .val (.int e)]) (st' := [.int 5, .ref sa, .ref sa]) rfl ?_
            refine wp_newA C (n := 5) (cap := 5) (cells' := 2) (slots' := 9) (vs := List.replicate 5 (.int 0)) 97 137 rfl rfl (wd hw 13 rfl) rfl (by decide) (by decide) rfl rfl (by decide) (by decide) rfl (fun ca => ?_)
            refine wp_blk C 98 4 (pc' := 141) (ls' := [.val (.int n), .val (.int a), .val (.int b), .val (.int k), .val (.int d), .val (.int e)]) (st' := [.int ((a : Int32).toUInt32.toUInt16.toUInt32.toInt32), .int 0, .ref ca, .ref ca, .ref sa, .ref sa]) rfl ?_
            rw [i2c_id ha]
            refine wp_stoC C (n := 0) (vs' := [a, 0, 0, 0, 0].map Value.int) (L' := [(ca, true, .inr .char, [a, 0, 0, 0, 0].map Value.int), (sa, true, .inl kS, [.null, .int 0])]) 102 142 0 rfl rfl rfl rfl (by simp) (by rw [nar_chr ⟨ha.1, by omega⟩]; rfl) rfl ?_
            refine wp_blk C 103 4 (pc' := 146) (ls' := [.val (.int n), .val (.int a), .val (.int b), .val (.int k), .val (.int d), .val (.int e)]) (st' := [.int ((b : Int32).toUInt32.toUInt16.toUInt32.toInt32), .int 1, .ref ca, .ref ca, .ref sa, .ref sa]) rfl ?_
            rw [i2c_id hb]
            refine wp_stoC C (n := 1) (vs' := [a, b, 0, 0, 0].map Value.int) (L' := [(ca, true, .inr .char, [a, b, 0, 0, 0].map Value.int), (sa, true, .inl kS, [.null, .int 0])]) 107 147 0 rfl rfl rfl rfl (by simp) (by rw [nar_chr ⟨hb.1, by omega⟩]; rfl) rfl ?_
            refine wp_blk C 108 4 (pc' := 151) (ls' := [.val (.int n), .val (.int a), .val (.int b), .val (.int k), .val (.int d), .val (.int e)]) (st' := [.int ((k : Int32).toUInt32.toUInt16.toUInt32.toInt32), .int 2, .ref ca, .ref ca, .ref sa, .ref sa]) rfl ?_
            rw [i2c_id hk]
            refine wp_stoC C (n := 2) (vs' := [a, b, k, 0, 0].map Value.int) (L' := [(ca, true, .inr .char, [a, b, k, 0, 0].map Value.int), (sa, true, .inl kS, [.null, .int 0])]) 112 152 0 rfl rfl rfl rfl (by simp) (by rw [nar_chr ⟨hk.1, by omega⟩]; rfl) rfl ?_
            refine wp_blk C 113 4 (pc' := 157) (ls' := [.val (.int n), .val (.int a), .val (.int b), .val (.int k), .val (.int d), .val (.int e)]) (st' := [.int ((d : Int32).toUInt32.toUInt16.toUInt32.toInt32), .int 3, .ref ca, .ref ca, .ref sa, .ref sa]) rfl ?_
            rw [i2c_id hd]
            refine wp_stoC C (n := 3) (vs' := [a, b, k, d, 0].map Value.int) (L' := [(ca, true, .inr .char, [a, b, k, d, 0].map Value.int), (sa, true, .inl kS, [.null, .int 0])]) 117 158 0 rfl rfl rfl rfl (by simp) (by rw [nar_chr ⟨hd.1, by omega⟩]; rfl) rfl ?_
            refine wp_blk C 118 4 (pc' := 163) (ls' := [.val (.int n), .val (.int a), .val (.int b), .val (.int k), .val (.int d), .val (.int e)]) (st' := [.int ((e : Int32).toUInt32.toUInt16.toUInt32.toInt32), .int 4, .ref ca, .ref ca, .ref sa, .ref sa]) rfl ?_
            rw [i2c_id he]
            refine wp_stoC C (n := 4) (vs' := [a, b, k, d, e].map Value.int) (L' := [(ca, true, .inr .char, [a, b, k, d, e].map Value.int), (sa, true, .inl kS, [.null, .int 0])]) 122 164 0 rfl rfl rfl rfl (by simp) (by rw [nar_chr ⟨he.1, by omega⟩]; rfl) rfl ?_
            refine wp_front C 1 (L' := [(sa, true, .inl kS, [.null, .int 0]), (ca, true, .inr .char, [a, b, k, d, e].map Value.int)]) rfl ?_
            refine wp_init C (al := [.ref ca]) (rest := [.ref sa]) (L1 := []) (W := 1) (cells' := 3) (slots' := 25) 123 167 (rm_str l Z a0 hw sa ca [a, b, k, d, e] cz S1 hcz (by intro c hc; simp only [List.mem_cons, List.not_mem_nil, or_false] at hc; rcases hc with rfl | rfl | rfl | rfl | rfl <;> assumption) (by simp) (by simp)) rfl rfl (wd hw 14 rfl) (wd hw 15 rfl) (wd hw 16 rfl) (wd hw 12 rfl) rfl (by decide) pd22 rfl rfl rfl rfl (by decide) (by decide) rfl rfl rfl (by decide) (by decide) (fun v L' hQ => ?_)
            obtain ⟨rfl, vb, rfl⟩ := hQ
            show Wp K 3 25 [(sa, true, .inl kS, [.ref vb, .int 0]), (vb, true, .inr .byte, ([a, b, k, d, e]).map bt), (ca, true, .inr .char, ([a, b, k, d, e]).map Value.int)] 167 [.val (.int n), .val (.int a), .val (.int b), .val (.int k), .val (.int d), .val (.int e)] [.ref sa]
            refine wp_drop C 2 (L' := [(sa, true, .inl kS, [.ref vb, .int 0]), (vb, true, .inr .byte, ([a, b, k, d, e]).map bt)]) rfl ?_
            exact wp_retA C 124 rfl rfl rfl (by decide) (by decide) (⟨sa, vb, true, rfl, by unfold strN; rw [if_pos q0, if_pos q1, if_pos q2, if_pos q3, if_pos q4]⟩)
          · refine wp_new C (Kc := kS) (cells' := 1) (slots' := 4) 68 101 rfl rfl (wd hw 10 rfl) (wd hw 11 rfl) (wd hw 12 rfl) (kS_ok hw) kS_df rfl rfl (by decide) (by decide) (fun sa => ?_)
            refine wp_blk C 69 2 (pc' := 103) (ls' := [.val (.int n), .val (.int a), .val (.int b), .val (.int k), .val (.int d), .val (.int e)]) (st' := [.int 4, .ref sa, .ref sa]) rfl ?_
            refine wp_newA C (n := 4) (cap := 4) (cells' := 2) (slots' := 8) (vs := List.replicate 4 (.int 0)) 71 105 rfl rfl (wd hw 13 rfl) rfl (by decide) (by decide) rfl rfl (by decide) (by decide) rfl (fun ca => ?_)
            refine wp_blk C 72 4 (pc' := 109) (ls' := [.val (.int n), .val (.int a), .val (.int b), .val (.int k), .val (.int d), .val (.int e)]) (st' := [.int ((a : Int32).toUInt32.toUInt16.toUInt32.toInt32), .int 0, .ref ca, .ref ca, .ref sa, .ref sa]) rfl ?_
            rw [i2c_id ha]
            refine wp_stoC C (n := 0) (vs' := [a, 0, 0, 0].map Value.int) (L' := [(ca, true, .inr .char, [a, 0, 0, 0].map Value.int), (sa, true, .inl kS, [.null, .int 0])]) 76 110 0 rfl rfl rfl rfl (by simp) (by rw [nar_chr ⟨ha.1, by omega⟩]; rfl) rfl ?_
            refine wp_blk C 77 4 (pc' := 114) (ls' := [.val (.int n), .val (.int a), .val (.int b), .val (.int k), .val (.int d), .val (.int e)]) (st' := [.int ((b : Int32).toUInt32.toUInt16.toUInt32.toInt32), .int 1, .ref ca, .ref ca, .ref sa, .ref sa]) rfl ?_
            rw [i2c_id hb]
            refine wp_stoC C (n := 1) (vs' := [a, b, 0, 0].map Value.int) (L' := [(ca, true, .inr .char, [a, b, 0, 0].map Value.int), (sa, true, .inl kS, [.null, .int 0])]) 81 115 0 rfl rfl rfl rfl (by simp) (by rw [nar_chr ⟨hb.1, by omega⟩]; rfl) rfl ?_
            refine wp_blk C 82 4 (pc' := 119) (ls' := [.val (.int n), .val (.int a), .val (.int b), .val (.int k), .val (.int d), .val (.int e)]) (st' := [.int ((k : Int32).toUInt32.toUInt16.toUInt32.toInt32), .int 2, .ref ca, .ref ca, .ref sa, .ref sa]) rfl ?_
            rw [i2c_id hk]
            refine wp_stoC C (n := 2) (vs' := [a, b, k, 0].map Value.int) (L' := [(ca, true, .inr .char, [a, b, k, 0].map Value.int), (sa, true, .inl kS, [.null, .int 0])]) 86 120 0 rfl rfl rfl rfl (by simp) (by rw [nar_chr ⟨hk.1, by omega⟩]; rfl) rfl ?_
            refine wp_blk C 87 4 (pc' := 125) (ls' := [.val (.int n), .val (.int a), .val (.int b), .val (.int k), .val (.int d), .val (.int e)]) (st' := [.int ((d : Int32).toUInt32.toUInt16.toUInt32.toInt32), .int 3, .ref ca, .ref ca, .ref sa, .ref sa]) rfl ?_
            rw [i2c_id hd]
            refine wp_stoC C (n := 3) (vs' := [a, b, k, d].map Value.int) (L' := [(ca, true, .inr .char, [a, b, k, d].map Value.int), (sa, true, .inl kS, [.null, .int 0])]) 91 126 0 rfl rfl rfl rfl (by simp) (by rw [nar_chr ⟨hd.1, by omega⟩]; rfl) rfl ?_
            refine wp_front C 1 (L' := [(sa, true, .inl kS, [.null, .int 0]), (ca, true, .inr .char, [a, b, k, d].map Value.int)]) rfl ?_
            refine wp_init C (al := [.ref ca]) (rest := [.ref sa]) (L1 := []) (W := 1) (cells' := 3) (slots' := 24) 92 129 (rm_str l Z a0 hw sa ca [a, b, k, d] cz S1 hcz (by intro c hc; simp only [List.mem_cons, List.not_mem_nil, or_false] at hc; rcases hc with rfl | rfl | rfl | rfl <;> assumption) (by simp) (by simp)) rfl rfl (wd hw 14 rfl) (wd hw 15 rfl) (wd hw 16 rfl) (wd hw 12 rfl) rfl (by decide) pd22 rfl rfl rfl rfl (by decide) (by decide) rfl rfl rfl (by decide) (by decide) (fun v L' hQ => ?_)
            obtain ⟨rfl, vb, rfl⟩ := hQ
            show Wp K 3 24 [(sa, true, .inl kS, [.ref vb, .int 0]), (vb, true, .inr .byte, ([a, b, k, d]).map bt), (ca, true, .inr .char, ([a, b, k, d]).map Value.int)] 129 [.val (.int n), .val (.int a), .val (.int b), .val (.int k), .val (.int d), .val (.int e)] [.ref sa]
            refine wp_drop C 2 (L' := [(sa, true, .inl kS, [.ref vb, .int 0]), (vb, true, .inr .byte, ([a, b, k, d]).map bt)]) rfl ?_
            exact wp_retA C 93 rfl rfl rfl (by decide) (by decide) (⟨sa, vb, true, rfl, by unfold strN; rw [if_pos q0, if_pos q1, if_pos q2, if_pos q3, if_neg (fun q => q q4)]⟩)
        · refine wp_new C (Kc := kS) (cells' := 1) (slots' := 4) 44 70 rfl rfl (wd hw 10 rfl) (wd hw 11 rfl) (wd hw 12 rfl) (kS_ok hw) kS_df rfl rfl (by decide) (by decide) (fun sa => ?_)
          refine wp_blk C 45 2 (pc' := 72) (ls' := [.val (.int n), .val (.int a), .val (.int b), .val (.int k), .val (.int d), .val (.int e)]) (st' := [.int 3, .ref sa, .ref sa]) rfl ?_
          refine wp_newA C (n := 3) (cap := 3) (cells' := 2) (slots' := 7) (vs := List.replicate 3 (.int 0)) 47 74 rfl rfl (wd hw 13 rfl) rfl (by decide) (by decide) rfl rfl (by decide) (by decide) rfl (fun ca => ?_)
          refine wp_blk C 48 4 (pc' := 78) (ls' := [.val (.int n), .val (.int a), .val (.int b), .val (.int k), .val (.int d), .val (.int e)]) (st' := [.int ((a : Int32).toUInt32.toUInt16.toUInt32.toInt32), .int 0, .ref ca, .ref ca, .ref sa, .ref sa]) rfl ?_
          rw [i2c_id ha]
          refine wp_stoC C (n := 0) (vs' := [a, 0, 0].map Value.int) (L' := [(ca, true, .inr .char, [a, 0, 0].map Value.int), (sa, true, .inl kS, [.null, .int 0])]) 52 79 0 rfl rfl rfl rfl (by simp) (by rw [nar_chr ⟨ha.1, by omega⟩]; rfl) rfl ?_
          refine wp_blk C 53 4 (pc' := 83) (ls' := [.val (.int n), .val (.int a), .val (.int b), .val (.int k), .val (.int d), .val (.int e)]) (st' := [.int ((b : Int32).toUInt32.toUInt16.toUInt32.toInt32), .int 1, .ref ca, .ref ca, .ref sa, .ref sa]) rfl ?_
          rw [i2c_id hb]
          refine wp_stoC C (n := 1) (vs' := [a, b, 0].map Value.int) (L' := [(ca, true, .inr .char, [a, b, 0].map Value.int), (sa, true, .inl kS, [.null, .int 0])]) 57 84 0 rfl rfl rfl rfl (by simp) (by rw [nar_chr ⟨hb.1, by omega⟩]; rfl) rfl ?_
          refine wp_blk C 58 4 (pc' := 88) (ls' := [.val (.int n), .val (.int a), .val (.int b), .val (.int k), .val (.int d), .val (.int e)]) (st' := [.int ((k : Int32).toUInt32.toUInt16.toUInt32.toInt32), .int 2, .ref ca, .ref ca, .ref sa, .ref sa]) rfl ?_
          rw [i2c_id hk]
          refine wp_stoC C (n := 2) (vs' := [a, b, k].map Value.int) (L' := [(ca, true, .inr .char, [a, b, k].map Value.int), (sa, true, .inl kS, [.null, .int 0])]) 62 89 0 rfl rfl rfl rfl (by simp) (by rw [nar_chr ⟨hk.1, by omega⟩]; rfl) rfl ?_
          refine wp_front C 1 (L' := [(sa, true, .inl kS, [.null, .int 0]), (ca, true, .inr .char, [a, b, k].map Value.int)]) rfl ?_
          refine wp_init C (al := [.ref ca]) (rest := [.ref sa]) (L1 := []) (W := 1) (cells' := 3) (slots' := 23) 63 92 (rm_str l Z a0 hw sa ca [a, b, k] cz S1 hcz (by intro c hc; simp only [List.mem_cons, List.not_mem_nil, or_false] at hc; rcases hc with rfl | rfl | rfl <;> assumption) (by simp) (by simp)) rfl rfl (wd hw 14 rfl) (wd hw 15 rfl) (wd hw 16 rfl) (wd hw 12 rfl) rfl (by decide) pd22 rfl rfl rfl rfl (by decide) (by decide) rfl rfl rfl (by decide) (by decide) (fun v L' hQ => ?_)
          obtain ⟨rfl, vb, rfl⟩ := hQ
          show Wp K 3 23 [(sa, true, .inl kS, [.ref vb, .int 0]), (vb, true, .inr .byte, ([a, b, k]).map bt), (ca, true, .inr .char, ([a, b, k]).map Value.int)] 92 [.val (.int n), .val (.int a), .val (.int b), .val (.int k), .val (.int d), .val (.int e)] [.ref sa]
          refine wp_drop C 2 (L' := [(sa, true, .inl kS, [.ref vb, .int 0]), (vb, true, .inr .byte, ([a, b, k]).map bt)]) rfl ?_
          exact wp_retA C 64 rfl rfl rfl (by decide) (by decide) (⟨sa, vb, true, rfl, by unfold strN; rw [if_pos q0, if_pos q1, if_pos q2, if_neg (fun q => q q3)]⟩)
      · refine wp_new C (Kc := kS) (cells' := 1) (slots' := 4) 25 44 rfl rfl (wd hw 10 rfl) (wd hw 11 rfl) (wd hw 12 rfl) (kS_ok hw) kS_df rfl rfl (by decide) (by decide) (fun sa => ?_)
        refine wp_blk C 26 2 (pc' := 46) (ls' := [.val (.int n), .val (.int a), .val (.int b), .val (.int k), .val (.int d), .val (.int e)]) (st' := [.int 2, .ref sa, .ref sa]) rfl ?_
        refine wp_newA C (n := 2) (cap := 2) (cells' := 2) (slots' := 6) (vs := List.replicate 2 (.int 0)) 28 48 rfl rfl (wd hw 13 rfl) rfl (by decide) (by decide) rfl rfl (by decide) (by decide) rfl (fun ca => ?_)
        refine wp_blk C 29 4 (pc' := 52) (ls' := [.val (.int n), .val (.int a), .val (.int b), .val (.int k), .val (.int d), .val (.int e)]) (st' := [.int ((a : Int32).toUInt32.toUInt16.toUInt32.toInt32), .int 0, .ref ca, .ref ca, .ref sa, .ref sa]) rfl ?_
        rw [i2c_id ha]
        refine wp_stoC C (n := 0) (vs' := [a, 0].map Value.int) (L' := [(ca, true, .inr .char, [a, 0].map Value.int), (sa, true, .inl kS, [.null, .int 0])]) 33 53 0 rfl rfl rfl rfl (by simp) (by rw [nar_chr ⟨ha.1, by omega⟩]; rfl) rfl ?_
        refine wp_blk C 34 4 (pc' := 57) (ls' := [.val (.int n), .val (.int a), .val (.int b), .val (.int k), .val (.int d), .val (.int e)]) (st' := [.int ((b : Int32).toUInt32.toUInt16.toUInt32.toInt32), .int 1, .ref ca, .ref ca, .ref sa, .ref sa]) rfl ?_
        rw [i2c_id hb]
        refine wp_stoC C (n := 1) (vs' := [a, b].map Value.int) (L' := [(ca, true, .inr .char, [a, b].map Value.int), (sa, true, .inl kS, [.null, .int 0])]) 38 58 0 rfl rfl rfl rfl (by simp) (by rw [nar_chr ⟨hb.1, by omega⟩]; rfl) rfl ?_
        refine wp_front C 1 (L' := [(sa, true, .inl kS, [.null, .int 0]), (ca, true, .inr .char, [a, b].map Value.int)]) rfl ?_
        refine wp_init C (al := [.ref ca]) (rest := [.ref sa]) (L1 := []) (W := 1) (cells' := 3) (slots' := 22) 39 61 (rm_str l Z a0 hw sa ca [a, b] cz S1 hcz (by intro c hc; simp only [List.mem_cons, List.not_mem_nil, or_false] at hc; rcases hc with rfl | rfl <;> assumption) (by simp) (by simp)) rfl rfl (wd hw 14 rfl) (wd hw 15 rfl) (wd hw 16 rfl) (wd hw 12 rfl) rfl (by decide) pd22 rfl rfl rfl rfl (by decide) (by decide) rfl rfl rfl (by decide) (by decide) (fun v L' hQ => ?_)
        obtain ⟨rfl, vb, rfl⟩ := hQ
        show Wp K 3 22 [(sa, true, .inl kS, [.ref vb, .int 0]), (vb, true, .inr .byte, ([a, b]).map bt), (ca, true, .inr .char, ([a, b]).map Value.int)] 61 [.val (.int n), .val (.int a), .val (.int b), .val (.int k), .val (.int d), .val (.int e)] [.ref sa]
        refine wp_drop C 2 (L' := [(sa, true, .inl kS, [.ref vb, .int 0]), (vb, true, .inr .byte, ([a, b]).map bt)]) rfl ?_
        exact wp_retA C 40 rfl rfl rfl (by decide) (by decide) (⟨sa, vb, true, rfl, by unfold strN; rw [if_pos q0, if_pos q1, if_neg (fun q => q q2)]⟩)
    · refine wp_new C (Kc := kS) (cells' := 1) (slots' := 4) 11 23 rfl rfl (wd hw 10 rfl) (wd hw 11 rfl) (wd hw 12 rfl) (kS_ok hw) kS_df rfl rfl (by decide) (by decide) (fun sa => ?_)
      refine wp_blk C 12 2 (pc' := 25) (ls' := [.val (.int n), .val (.int a), .val (.int b), .val (.int k), .val (.int d), .val (.int e)]) (st' := [.int 1, .ref sa, .ref sa]) rfl ?_
      refine wp_newA C (n := 1) (cap := 1) (cells' := 2) (slots' := 5) (vs := List.replicate 1 (.int 0)) 14 27 rfl rfl (wd hw 13 rfl) rfl (by decide) (by decide) rfl rfl (by decide) (by decide) rfl (fun ca => ?_)
      refine wp_blk C 15 4 (pc' := 31) (ls' := [.val (.int n), .val (.int a), .val (.int b), .val (.int k), .val (.int d), .val (.int e)]) (st' := [.int ((a : Int32).toUInt32.toUInt16.toUInt32.toInt32), .int 0, .ref ca, .ref ca, .ref sa, .ref sa]) rfl ?_
      rw [i2c_id ha]
      refine wp_stoC C (n := 0) (vs' := [a].map Value.int) (L' := [(ca, true, .inr .char, [a].map Value.int), (sa, true, .inl kS, [.null, .int 0])]) 19 32 0 rfl rfl rfl rfl (by simp) (by rw [nar_chr ⟨ha.1, by omega⟩]; rfl) rfl ?_
      refine wp_front C 1 (L' := [(sa, true, .inl kS, [.null, .int 0]), (ca, true, .inr .char, [a].map Value.int)]) rfl ?_
      refine wp_init C (al := [.ref ca]) (rest := [.ref sa]) (L1 := []) (W := 1) (cells' := 3) (slots' := 21) 20 35 (rm_str l Z a0 hw sa ca [a] cz S1 hcz (by intro c hc; simp only [List.mem_cons, List.not_mem_nil, or_false] at hc; rcases hc with rfl <;> assumption) (by simp) (by simp)) rfl rfl (wd hw 14 rfl) (wd hw 15 rfl) (wd hw 16 rfl) (wd hw 12 rfl) rfl (by decide) pd22 rfl rfl rfl rfl (by decide) (by decide) rfl rfl rfl (by decide) (by decide) (fun v L' hQ => ?_)
      obtain ⟨rfl, vb, rfl⟩ := hQ
      show Wp K 3 21 [(sa, true, .inl kS, [.ref vb, .int 0]), (vb, true, .inr .byte, ([a]).map bt), (ca, true, .inr .char, ([a]).map Value.int)] 35 [.val (.int n), .val (.int a), .val (.int b), .val (.int k), .val (.int d), .val (.int e)] [.ref sa]
      refine wp_drop C 2 (L' := [(sa, true, .inl kS, [.ref vb, .int 0]), (vb, true, .inr .byte, ([a]).map bt)]) rfl ?_
      exact wp_retA C 21 rfl rfl rfl (by decide) (by decide) (⟨sa, vb, true, rfl, by unfold strN; rw [if_pos q0, if_neg (fun q => q q1)]⟩)
  · refine wp_new C (Kc := kS) (cells' := 1) (slots' := 4) 2 7 rfl rfl (wd hw 10 rfl) (wd hw 11 rfl) (wd hw 12 rfl) (kS_ok hw) kS_df rfl rfl (by decide) (by decide) (fun sa => ?_)
    refine wp_blk C 3 2 (pc' := 9) (ls' := [.val (.int n), .val (.int a), .val (.int b), .val (.int k), .val (.int d), .val (.int e)]) (st' := [.int 0, .ref sa, .ref sa]) rfl ?_
    refine wp_newA C (n := 0) (cap := 0) (cells' := 2) (slots' := 4) (vs := List.replicate 0 (.int 0)) 5 11 rfl rfl (wd hw 13 rfl) rfl (by decide) (by decide) rfl rfl (by decide) (by decide) rfl (fun ca => ?_)
    refine wp_front C 1 (L' := [(sa, true, .inl kS, [.null, .int 0]), (ca, true, .inr .char, List.replicate 0 (.int 0))]) rfl ?_
    refine wp_init C (al := [.ref ca]) (rest := [.ref sa]) (L1 := []) (W := 1) (cells' := 6) (slots' := 12) 6 14 (rm_str0 l Z a0 hw sa ca) rfl rfl (wd hw 14 rfl) (wd hw 15 rfl) (wd hw 16 rfl) (wd hw 12 rfl) rfl (by decide) pd22 rfl rfl rfl rfl (by decide) (by decide) rfl rfl rfl (by decide) (by decide) (fun v L' hQ => ?_)
    obtain ⟨rfl, vb, rfl⟩ := hQ
    show Wp K 6 12 [(sa, true, .inl kS, [.ref vb, .int 0]), (vb, false, .inr .byte, ([] : List Value)), (ca, true, .inr .char, ([] : List Value))] 14 [.val (.int n), .val (.int a), .val (.int b), .val (.int k), .val (.int d), .val (.int e)] [.ref sa]
    refine wp_drop C 2 (L' := [(sa, true, .inl kS, [.ref vb, .int 0]), (vb, false, .inr .byte, ([] : List Value))]) rfl ?_
    exact wp_retA C 7 rfl rfl rfl (by decide) (by decide) (⟨sa, vb, false, rfl, by unfold strN; rw [if_neg (fun q => q q0)]; rfl⟩)
def kM : Kd := ("com/example/remitter/remitter/MediaType", [("com/example/remitter/remitter/MediaType", "type", "Ljava/lang/String;"), ("com/example/remitter/remitter/MediaType", "subtype", "Ljava/lang/String;"), ("com/example/remitter/remitter/MediaType", "parameters", "Ljava/util/Map;")])
theorem kM_ok {Z : State} {a0 : Array Value} (hw : ∀ d ∈ tables_1, d.before a0 Z = true) : KOk Z a0 kM := ⟨⟨⟨Or.inr (wd hw 45 rfl), by decide +kernel⟩, ⟨⟨Or.inr (wd hw 47 rfl), by decide +kernel⟩, ⟨⟨Or.inr (wd hw 49 rfl), by decide +kernel⟩, trivial⟩⟩⟩, by decide +kernel⟩
theorem kM_df : defs kM = [.null, .null, .null] := by decide +kernel
theorem pn36 : plainFor (⟨"java/lang/Record", "<init>", "()V"⟩ : MethodName) = true := by first | (refine plainFor_of_name ?_; simp [plainName, overriddenIn]; done) | (refine plainFor_of_name ?_; decide +kernel) | decide +kernel
def B_rm_rec : Prog := [(0, .aload_n 0, 1), (1, .invokespecial 1, 3), (4, .return_, 1)]
theorem B_rm_rec_ok : okB jdk_30_method_1_code B_rm_rec = true := by decide +kernel
set_option maxRecDepth 65536 in
set_option maxHeartbeats 40000000 in
theorem rm_rec (l : Launch) (Z : State) (a0 : Array Value) (hw : ∀ d ∈ tables_1, d.before a0 Z = true) (a : Addr) : Ct l Z EL1 nw1 (⟨"java/lang/Record", "<init>", "()V"⟩ : MethodName) jdk_30_method_1_code 1 none [] ({ frames := 1, cells := 0, slots := 0, locals := 12 } : Room) [.ref a] [] (fun v L => v = none ∧ L = []) := by
  refine ct_of pn36 (B := B_rm_rec) (ls := [.val (.ref a)]) B_rm_rec_ok (ew1 hw) (fun m => by first | (simp [entryFrame, mkF, argsToLocals, Value.category]; done) | rfl) (fun K C => ?_)
  refine wp_blk C 0 1 (pc' := 1) (ls' := [.val (.ref a)]) (st' := [.ref a]) rfl ?_
  refine wp_initO C (W := 0) 1 4 rfl rfl (wd hw 43 rfl) (wd hw 22 rfl) (wd hw 23 rfl) (by decide) rfl (by decide) rfl ?_
  exact wp_ret0 C 2 rfl (by decide) (by decide) (⟨rfl, rfl⟩)
theorem pn37 : plainFor (⟨"com/example/remitter/remitter/MediaType", "<init>", "(Ljava/lang/String;Ljava/lang/String;Ljava/util/Map;)V"⟩ : MethodName) = true := by first | (refine plainFor_of_name ?_; simp [plainName, overriddenIn]; done) | (refine plainFor_of_name ?_; decide +kernel) | decide +kernel
theorem pd23 : parseMethodDescriptor "()V" = some ⟨[], none⟩ := by decide +kernel
theorem fd3 : parseFieldDescriptor "Ljava/lang/String;" = some (.object "java/lang/String") := by decide +kernel
theorem fd4 : parseFieldDescriptor "Ljava/util/Map;" = some (.object "java/util/Map") := by decide +kernel
def B_rm_mt : Prog := [(0, .aload_n 0, 1), (1, .invokespecial 1, 3), (4, .aload_n 0, 1), (5, .aload_n 1, 1), (6, .putfield 7, 3), (9, .aload_n 0, 1), (10, .aload_n 2, 1), (11, .putfield 13, 3), (14, .aload_n 0, 1), (15, .aload_n 3, 1), (16, .putfield 16, 3), (19, .return_, 1)]
theorem B_rm_mt_ok : okB prog_12_method_1_code B_rm_mt = true := by decide +kernel
set_option maxRecDepth 65536 in
set_option maxHeartbeats 40000000 in
theorem rm_mt (l : Launch) (Z : State) (a0 : Array Value) (hw : ∀ d ∈ tables_1, d.before a0 Z = true) (ma t1 t2 : Addr) : Ct l Z EL1 nw1 (⟨"com/example/remitter/remitter/MediaType", "<init>", "(Ljava/lang/String;Ljava/lang/String;Ljava/util/Map;)V"⟩ : MethodName) prog_12_method_1_code 4 none [] ({ frames := 2, cells := 0, slots := 0, locals := 24 } : Room) [.ref ma, .ref t1, .ref t2, .null] [(ma, true, .inl kM, [.null, .null, .null])] (fun v L => v = none ∧ L = [(ma, true, .inl kM, [.ref t1, .ref t2, .null])]) := by
  refine ct_of pn37 (B := B_rm_mt) (ls := [.val (.ref ma), .val (.ref t1), .val (.ref t2), .val (.null)]) B_rm_mt_ok (ew1 hw) (fun m => by first | (simp [entryFrame, mkF, argsToLocals, Value.category]; done) | rfl) (fun K C => ?_)
  refine wp_blk C 0 1 (pc' := 1) (ls' := [.val (.ref ma), .val (.ref t1), .val (.ref t2), .val (.null)]) (st' := [.ref ma]) rfl ?_
  refine wp_init C (al := []) (rest := []) (L1 := [(ma, true, .inl kM, [.null, .null, .null])]) (W := 0) (cells' := 0) (slots' := 0) 1 4 (rm_rec l Z a0 hw ma) rfl rfl (wd hw 38 rfl) (wd hw 39 rfl) (wd hw 42 rfl) (wd hw 41 rfl) rfl (by decide) pd23 rfl rfl rfl rfl (by decide) (by decide) rfl rfl rfl (by decide) (by decide) (fun v L' hQ => ?_)
  obtain ⟨rfl, rfl⟩ := hQ
  show Wp K 0 0 [(ma, true, .inl kM, [.null, .null, .null])] 4 [.val (.ref ma), .val (.ref t1), .val (.ref t2), .val (.null)] []
  refine wp_blk C 2 2 (pc' := 6) (ls' := [.val (.ref ma), .val (.ref t1), .val (.ref t2), .val (.null)]) (st' := [.ref t1, .ref ma]) rfl ?_
  refine wp_put C (ty := (.object "java/lang/String")) (v := .ref t1) (vs' := [.ref t1, .null, .null]) (L' := [(ma, true, .inl kM, [.ref t1, .null, .null])]) 4 9 0 0 rfl rfl (wd hw 44 rfl) Via.refl (Or.inr ⟨wd hw 45 rfl, rfl, rfl⟩) (wd hw 33 rfl) (kM_ok hw) fd3 rfl rfl rfl rfl rfl rfl rfl ?_
  refine wp_blk C 5 2 (pc' := 11) (ls' := [.val (.ref ma), .val (.ref t1), .val (.ref t2), .val (.null)]) (st' := [.ref t2, .ref ma]) rfl ?_
  refine wp_put C (ty := (.object "java/lang/String")) (v := .ref t2) (vs' := [.ref t1, .ref t2, .null]) (L' := [(ma, true, .inl kM, [.ref t1, .ref t2, .null])]) 7 14 0 1 rfl rfl (wd hw 46 rfl) Via.refl (Or.inr ⟨wd hw 47 rfl, rfl, rfl⟩) (wd hw 33 rfl) (kM_ok hw) fd3 rfl rfl rfl rfl rfl rfl rfl ?_
  refine wp_blk C 8 2 (pc' := 16) (ls' := [.val (.ref ma), .val (.ref t1), .val (.ref t2), .val (.null)]) (st' := [.null, .ref ma]) rfl ?_
  refine wp_put C (ty := (.object "java/util/Map")) (v := .null) (vs' := [.ref t1, .ref t2, .null]) (L' := [(ma, true, .inl kM, [.ref t1, .ref t2, .null])]) 10 19 0 2 rfl rfl (wd hw 48 rfl) Via.refl (Or.inr ⟨wd hw 49 rfl, rfl, rfl⟩) (wd hw 33 rfl) (kM_ok hw) fd4 rfl rfl rfl rfl rfl rfl rfl ?_
  exact wp_ret0 C 11 rfl (by decide) (by decide) (⟨rfl, rfl⟩)
theorem pn38 : plainFor (⟨"com/example/remitter/remitter/MediaType", "is", "(Ljava/lang/String;)Z"⟩ : MethodName) = true := by first | (refine plainFor_of_name ?_; simp [plainName, overriddenIn]; done) | (refine plainFor_of_name ?_; decide +kernel) | decide +kernel
theorem pd24 : parseMethodDescriptor "(Ljava/lang/String;)Ljava/lang/StringBuilder;" = some ⟨[(.object "java/lang/String")], (some (.object "java/lang/StringBuilder"))⟩ := by decide +kernel
theorem pd25 : parseMethodDescriptor "()Ljava/lang/String;" = some ⟨[], (some (.object "java/lang/String"))⟩ := by decide +kernel
theorem pd26 : parseMethodDescriptor "(Ljava/lang/String;)Z" = some ⟨[(.object "java/lang/String")], (some .boolean)⟩ := by decide +kernel
def B_rm_is : Prog := [(0, .aload_n 1, 1), (1, .new 106, 3), (4, .dup, 1), (5, .invokespecial 108, 3), (8, .aload_n 0, 1), (9, .getfield 7, 3), (12, .invokevirtual 109, 3), (15, .ldc 113, 2), (17, .invokevirtual 109, 3), (20, .aload_n 0, 1), (21, .getfield 13, 3), (24, .invokevirtual 109, 3), (27, .invokevirtual 115, 3), (30, .invokevirtual 118, 3), (33, .ireturn, 1)]
theorem B_rm_is_ok : okB prog_12_method_3_code B_rm_is = true := by decide +kernel
set_option maxRecDepth 65536 in
set_option maxHeartbeats 40000000 in
theorem rm_is (l : Launch) (Z : State) (a0 : Array Value) (hw : ∀ d ∈ tables_1, d.before a0 Z = true) (ma t1 b1 t2 b2 t3 b3 : Addr) (u1 u2 u3 : Bool) (c1 c2 c3 : List Int32) (cz : Int32) (S1 : Sta Z Z.heap "java/lang/String" "COMPACT_STRINGS" "Z" (.int cz)) (hcz : cz ≠ 0) (l1 : Lat c1) (k1 : c1.length ≤ 5) (l2 : Lat c2) (k2 : c2.length ≤ 5) (l3 : Lat c3) (k3 : c3.length ≤ 5) : Ct l Z EL1 nw1 (⟨"com/example/remitter/remitter/MediaType", "is", "(Ljava/lang/String;)Z"⟩ : MethodName) prog_12_method_3_code 2 (some .boolean) [] ({ frames := 6, cells := 6, slots := 48, locals := 92 } : Room) [.ref ma, .ref t3] [(ma, true, .inl kM, [.ref t1, .ref t2, .null]), (t1, true, .inl kS, [.ref b1, .int 0]), (b1, u1, .inr .byte, c1.map bt), (t2, true, .inl kS, [.ref b2, .int 0]), (b2, u2, .inr .byte, c2.map bt), (t3, true, .inl kS, [.ref b3, .int 0]), (b3, u3, .inr .byte, c3.map bt)] (fun v L => v = some (.int (if c3.map foldV = ([] ++ c1 ++ [47] ++ c2).map foldV then 1 else 0)) ∧ L = []) := by
  refine ct_of pn38 (B := B_rm_is) (ls := [.val (.ref ma), .val (.ref t3)]) B_rm_is_ok (ew1 hw) (fun m => by first | (simp [entryFrame, mkF, argsToLocals, Value.category]; done) | rfl) (fun K C => ?_)
  refine wp_blk C 0 1 (pc' := 1) (ls' := [.val (.ref ma), .val (.ref t3)]) (st' := [.ref t3]) rfl ?_
  refine wp_new C (Kc := kSB) (cells' := 1) (slots' := 4) 1 4 rfl rfl (wd hw 55 rfl) (wd hw 56 rfl) (wd hw 57 rfl) (kSB_ok hw) kSB_df rfl rfl (by decide) (by decide) (fun ba => ?_)
  refine wp_blk C 2 1 (pc' := 5) (ls' := [.val (.ref ma), .val (.ref t3)]) (st' := [.ref ba, .ref ba, .ref t3]) rfl ?_
  refine wp_init C (al := []) (rest := [.ref ba, .ref t3]) (L1 := [(ma, true, .inl kM, [.ref t1, .ref t2, .null]), (t1, true, .inl kS, [.ref b1, .int 0]), (b1, u1, .inr .byte, c1.map bt), (t2, true, .inl kS, [.ref b2, .int 0]), (b2, u2, .inr .byte, c2.map bt), (t3, true, .inl kS, [.ref b3, .int 0]), (b3, u3, .inr .byte, c3.map bt)]) (W := 2) (cells' := 2) (slots' := 20) 3 8 (rm_sbi l Z a0 hw ba cz S1 hcz) rfl rfl (wd hw 58 rfl) (wd hw 59 rfl) (wd hw 60 rfl) (wd hw 57 rfl) rfl (by decide) pd23 rfl rfl rfl rfl (by decide) (by decide) rfl rfl rfl (by decide) (by decide) (fun v L' hQ => ?_)
  obtain ⟨rfl, vb, rfl⟩ := hQ
  show Wp K 2 20 [(ba, true, .inl kSB, [.ref vb, .int 0, .int 0]), (vb, true, .inr .byte, (sbv ([])).map bt), (ma, true, .inl kM, [.ref t1, .ref t2, .null]), (t1, true, .inl kS, [.ref b1, .int 0]), (b1, u1, .inr .byte, c1.map bt), (t2, true, .inl kS, [.ref b2, .int 0]), (b2, u2, .inr .byte, c2.map bt), (t3, true, .inl kS, [.ref b3, .int 0]), (b3, u3, .inr .byte, c3.map bt)] 8 [.val (.ref ma), .val (.ref t3)] [.ref ba, .ref t3]
  refine wp_blk C 4 1 (pc' := 9) (ls' := [.val (.ref ma), .val (.ref t3)]) (st' := [.ref ma, .ref ba, .ref t3]) rfl ?_
  refine wp_get C 5 12 2 0 rfl rfl (wd hw 44 rfl) Via.refl rfl rfl rfl ?_
  refine wp_front C 4 (L' := [(b1, u1, .inr .byte, c1.map bt), (ba, true, .inl kSB, [.ref vb, .int 0, .int 0]), (vb, true, .inr .byte, (sbv ([])).map bt), (ma, true, .inl kM, [.ref t1, .ref t2, .null]), (t1, true, .inl kS, [.ref b1, .int 0]), (t2, true, .inl kS, [.ref b2, .int 0]), (b2, u2, .inr .byte, c2.map bt), (t3, true, .inl kS, [.ref b3, .int 0]), (b3, u3, .inr .byte, c3.map bt)]) rfl ?_
  refine wp_front C 4 (L' := [(t1, true, .inl kS, [.ref b1, .int 0]), (b1, u1, .inr .byte, c1.map bt), (ba, true, .inl kSB, [.ref vb, .int 0, .int 0]), (vb, true, .inr .byte, (sbv ([])).map bt), (ma, true, .inl kM, [.ref t1, .ref t2, .null]), (t2, true, .inl kS, [.ref b2, .int 0]), (b2, u2, .inr .byte, c2.map bt), (t3, true, .inl kS, [.ref b3, .int 0]), (b3, u3, .inr .byte, c3.map bt)]) rfl ?_
  refine wp_front C 3 (L' := [(vb, true, .inr .byte, (sbv ([])).map bt), (t1, true, .inl kS, [.ref b1, .int 0]), (b1, u1, .inr .byte, c1.map bt), (ba, true, .inl kSB, [.ref vb, .int 0, .int 0]), (ma, true, .inl kM, [.ref t1, .ref t2, .null]), (t2, true, .inl kS, [.ref b2, .int 0]), (b2, u2, .inr .byte, c2.map bt), (t3, true, .inl kS, [.ref b3, .int 0]), (b3, u3, .inr .byte, c3.map bt)]) rfl ?_
  refine wp_front C 3 (L' := [(ba, true, .inl kSB, [.ref vb, .int 0, .int 0]), (vb, true, .inr .byte, (sbv ([])).map bt), (t1, true, .inl kS, [.ref b1, .int 0]), (b1, u1, .inr .byte, c1.map bt), (ma, true, .inl kM, [.ref t1, .ref t2, .null]), (t2, true, .inl kS, [.ref b2, .int 0]), (b2, u2, .inr .byte, c2.map bt), (t3, true, .inl kS, [.ref b3, .int 0]), (b3, u3, .inr .byte, c3.map bt)]) rfl ?_
  refine wp_virtual C (al := [.ref t1]) (rest := [.ref t3]) (L1 := [(ma, true, .inl kM, [.ref t1, .ref t2, .null]), (t2, true, .inl kS, [.ref b2, .int 0]), (b2, u2, .inr .byte, c2.map bt), (t3, true, .inl kS, [.ref b3, .int 0]), (b3, u3, .inr .byte, c3.map bt)]) (W := 1) (cells' := 2) (slots' := 20) 6 15 0 (rm_sap l Z a0 hw ba vb t1 b1 true u1 [] c1 0 cz S1 hcz rfl (by simp; omega)) rfl rfl rfl (wd hw 73 rfl) (wd hw 74 rfl) (nf_self (wd hw 76 rfl)) (wd hw 76 rfl) (wd hw 75 rfl) (wd hw 77 rfl) (wd hw 57 rfl) (by decide) pd24 rfl rfl rfl rfl (by decide) (by decide) rfl rfl rfl (by decide) (by decide) (fun v L' hQ => ?_)
  obtain ⟨n1, Hn1, rfl, rfl⟩ := hQ
  show Wp K 2 20 [(ba, true, .inl kSB, [.ref vb, .int 0, .int n1]), (vb, true, .inr .byte, (sbv ([] ++ c1)).map bt), (t1, true, .inl kS, [.ref b1, .int 0]), (b1, u1, .inr .byte, c1.map bt), (ma, true, .inl kM, [.ref t1, .ref t2, .null]), (t2, true, .inl kS, [.ref b2, .int 0]), (b2, u2, .inr .byte, c2.map bt), (t3, true, .inl kS, [.ref b3, .int 0]), (b3, u3, .inr .byte, c3.map bt)] 15 [.val (.ref ma), .val (.ref t3)] [.ref ba, .ref t3]
  refine wp_ldcC C (n := 4) (vs := [.int 47]) (Kc := kS) (mk := fun b => [.ref b, .int 0]) (cells' := 4) (slots' := 28) 1 7 17 rfl rfl (wd hw 121 rfl) (sat hw) (by decide) (by decide +kernel) (by decide) (by decide) (by decide) (Or.inl ⟨rfl, rfl⟩) (by decide) (by decide) rfl rfl (by decide) (by decide) (fun us ub => ?_)
  refine wp_front C 1 (L' := [(ub, false, .inr .byte, [.int 47]), (us, false, .inl kS, [.ref ub, .int 0]), (ba, true, .inl kSB, [.ref vb, .int 0, .int n1]), (vb, true, .inr .byte, (sbv ([] ++ c1)).map bt), (t1, true, .inl kS, [.ref b1, .int 0]), (b1, u1, .inr .byte, c1.map bt), (ma, true, .inl kM, [.ref t1, .ref t2, .null]), (t2, true, .inl kS, [.ref b2, .int 0]), (b2, u2, .inr .byte, c2.map bt), (t3, true, .inl kS, [.ref b3, .int 0]), (b3, u3, .inr .byte, c3.map bt)]) rfl ?_
  refine wp_front C 1 (L' := [(us, false, .inl kS, [.ref ub, .int 0]), (ub, false, .inr .byte, [.int 47]), (ba, true, .inl kSB, [.ref vb, .int 0, .int n1]), (vb, true, .inr .byte, (sbv ([] ++ c1)).map bt), (t1, true, .inl kS, [.ref b1, .int 0]), (b1, u1, .inr .byte, c1.map bt), (ma, true, .inl kM, [.ref t1, .ref t2, .null]), (t2, true, .inl kS, [.ref b2, .int 0]), (b2, u2, .inr .byte, c2.map bt), (t3, true, .inl kS, [.ref b3, .int 0]), (b3, u3, .inr .byte, c3.map bt)]) rfl ?_
  refine wp_front C 3 (L' := [(vb, true, .inr .byte, (sbv ([] ++ c1)).map bt), (us, false, .inl kS, [.ref ub, .int 0]), (ub, false, .inr .byte, [.int 47]), (ba, true, .inl kSB, [.ref vb, .int 0, .int n1]), (t1, true, .inl kS, [.ref b1, .int 0]), (b1, u1, .inr .byte, c1.map bt), (ma, true, .inl kM, [.ref t1, .ref t2, .null]), (t2, true, .inl kS, [.ref b2, .int 0]), (b2, u2, .inr .byte, c2.map bt), (t3, true, .inl kS, [.ref b3, .int 0]), (b3, u3, .inr .byte, c3.map bt)]) rfl ?_
  refine wp_front C 3 (L' := [(ba, true, .inl kSB, [.ref vb, .int 0, .int n1]), (vb, true, .inr .byte, (sbv ([] ++ c1)).map bt), (us, false, .inl kS, [.ref ub, .int 0]), (ub, false, .inr .byte, [.int 47]), (t1, true, .inl kS, [.ref b1, .int 0]), (b1, u1, .inr .byte, c1.map bt), (ma, true, .inl kM, [.ref t1, .ref t2, .null]), (t2, true, .inl kS, [.ref b2, .int 0]), (b2, u2, .inr .byte, c2.map bt), (t3, true, .inl kS, [.ref b3, .int 0]), (b3, u3, .inr .byte, c3.map bt)]) rfl ?_
  refine wp_virtual C (al := [.ref us]) (rest := [.ref t3]) (L1 := [(t1, true, .inl kS, [.ref b1, .int 0]), (b1, u1, .inr .byte, c1.map bt), (ma, true, .inl kM, [.ref t1, .ref t2, .null]), (t2, true, .inl kS, [.ref b2, .int 0]), (b2, u2, .inr .byte, c2.map bt), (t3, true, .inl kS, [.ref b3, .int 0]), (b3, u3, .inr .byte, c3.map bt)]) (W := 1) (cells' := 4) (slots' := 28) 8 20 0 (rm_sap l Z a0 hw ba vb us ub false false ([] ++ c1) [47] n1 cz S1 hcz Hn1 (by simp; omega)) rfl rfl rfl (wd hw 73 rfl) (wd hw 74 rfl) (nf_self (wd hw 76 rfl)) (wd hw 76 rfl) (wd hw 75 rfl) (wd hw 77 rfl) (wd hw 57 rfl) (by decide) pd24 rfl rfl rfl rfl (by decide) (by decide) rfl rfl rfl (by decide) (by decide) (fun v L' hQ => ?_)
  obtain ⟨n2, Hn2, rfl, rfl⟩ := hQ
  show Wp K 4 28 [(ba, true, .inl kSB, [.ref vb, .int 0, .int n2]), (vb, true, .inr .byte, (sbv ([] ++ c1 ++ [47])).map bt), (us, false, .inl kS, [.ref ub, .int 0]), (ub, false, .inr .byte, ([47]).map bt), (t1, true, .inl kS, [.ref b1, .int 0]), (b1, u1, .inr .byte, c1.map bt), (ma, true, .inl kM, [.ref t1, .ref t2, .null]), (t2, true, .inl kS, [.ref b2, .int 0]), (b2, u2, .inr .byte, c2.map bt), (t3, true, .inl kS, [.ref b3, .int 0]), (b3, u3, .inr .byte, c3.map bt)] 20 [.val (.ref ma), .val (.ref t3)] [.ref ba, .ref t3]
  refine wp_drop C 2 (L' := [(ba, true, .inl kSB, [.ref vb, .int 0, .int n2]), (vb, true, .inr .byte, (sbv ([] ++ c1 ++ [47])).map bt), (ub, false, .inr .byte, ([47]).map bt), (t1, true, .inl kS, [.ref b1, .int 0]), (b1, u1, .inr .byte, c1.map bt), (ma, true, .inl kM, [.ref t1, .ref t2, .null]), (t2, true, .inl kS, [.ref b2, .int 0]), (b2, u2, .inr .byte, c2.map bt), (t3, true, .inl kS, [.ref b3, .int 0]), (b3, u3, .inr .byte, c3.map bt)]) rfl ?_
  refine wp_drop C 2 (L' := [(ba, true, .inl kSB, [.ref vb, .int 0, .int n2]), (vb, true, .inr .byte, (sbv ([] ++ c1 ++ [47])).map bt), (t1, true, .inl kS, [.ref b1, .int 0]), (b1, u1, .inr .byte, c1.map bt), (ma, true, .inl kM, [.ref t1, .ref t2, .null]), (t2, true, .inl kS, [.ref b2, .int 0]), (b2, u2, .inr .byte, c2.map bt), (t3, true, .inl kS, [.ref b3, .int 0]), (b3, u3, .inr .byte, c3.map bt)]) rfl ?_
  refine wp_blk C 9 1 (pc' := 21) (ls' := [.val (.ref ma), .val (.ref t3)]) (st' := [.ref ma, .ref ba, .ref t3]) rfl ?_
  refine wp_get C 10 24 4 1 rfl rfl (wd hw 46 rfl) Via.refl rfl rfl rfl ?_
  refine wp_front C 6 (L' := [(b2, u2, .inr .byte, c2.map bt), (ba, true, .inl kSB, [.ref vb, .int 0, .int n2]), (vb, true, .inr .byte, (sbv ([] ++ c1 ++ [47])).map bt), (t1, true, .inl kS, [.ref b1, .int 0]), (b1, u1, .inr .byte, c1.map bt), (ma, true, .inl kM, [.ref t1, .ref t2, .null]), (t2, true, .inl kS, [.ref b2, .int 0]), (t3, true, .inl kS, [.ref b3, .int 0]), (b3, u3, .inr .byte, c3.map bt)]) rfl ?_
  refine wp_front C 6 (L' := [(t2, true, .inl kS, [.ref b2, .int 0]), (b2, u2, .inr .byte, c2.map bt), (ba, true, .inl kSB, [.ref vb, .int 0, .int n2]), (vb, true, .inr .byte, (sbv ([] ++ c1 ++ [47])).map bt), (t1, true, .inl kS, [.ref b1, .int 0]), (b1, u1, .inr .byte, c1.map bt), (ma, true, .inl kM, [.ref t1, .ref t2, .null]), (t3, true, .inl kS, [.ref b3, .int 0]), (b3, u3, .inr .byte, c3.map bt)]) rfl ?_
  refine wp_front C 3 (L' := [(vb, true, .inr .byte, (sbv ([] ++ c1 ++ [47])).map bt), (t2, true, .inl kS, [.ref b2, .int 0]), (b2, u2, .inr .byte, c2.map bt), (ba, true, .inl kSB, [.ref vb, .int 0, .int n2]), (t1, true, .inl kS, [.ref b1, .int 0]), (b1, u1, .inr .byte, c1.map bt), (ma, true, .inl kM, [.ref t1, .ref t2, .null]), (t3, true, .inl kS, [.ref b3, .int 0]), (b3, u3, .inr .byte, c3.map bt)]) rfl ?_
  refine wp_front C 3 (L' := [(ba, true, .inl kSB, [.ref vb, .int 0, .int n2]), (vb, true, .inr .byte, (sbv ([] ++ c1 ++ [47])).map bt), (t2, true, .inl kS, [.ref b2, .int 0]), (b2, u2, .inr .byte, c2.map bt), (t1, true, .inl kS, [.ref b1, .int 0]), (b1, u1, .inr .byte, c1.map bt), (ma, true, .inl kM, [.ref t1, .ref t2, .null]), (t3, true, .inl kS, [.ref b3, .int 0]), (b3, u3, .inr .byte, c3.map bt)]) rfl ?_
  refine wp_virtual C (al := [.ref t2]) (rest := [.ref t3]) (L1 := [(t1, true, .inl kS, [.ref b1, .int 0]), (b1, u1, .inr .byte, c1.map bt), (ma, true, .inl kM, [.ref t1, .ref t2, .null]), (t3, true, .inl kS, [.ref b3, .int 0]), (b3, u3, .inr .byte, c3.map bt)]) (W := 1) (cells' := 4) (slots' := 28) 11 27 0 (rm_sap l Z a0 hw ba vb t2 b2 true u2 ([] ++ c1 ++ [47]) c2 n2 cz S1 hcz Hn2 (by simp; omega)) rfl rfl rfl (wd hw 73 rfl) (wd hw 74 rfl) (nf_self (wd hw 76 rfl)) (wd hw 76 rfl) (wd hw 75 rfl) (wd hw 77 rfl) (wd hw 57 rfl) (by decide) pd24 rfl rfl rfl rfl (by decide) (by decide) rfl rfl rfl (by decide) (by decide) (fun v L' hQ => ?_)
  obtain ⟨n3, Hn3, rfl, rfl⟩ := hQ
  show Wp K 4 28 [(ba, true, .inl kSB, [.ref vb, .int 0, .int n3]), (vb, true, .inr .byte, (sbv ([] ++ c1 ++ [47] ++ c2)).map bt), (t2, true, .inl kS, [.ref b2, .int 0]), (b2, u2, .inr .byte, c2.map bt), (t1, true, .inl kS, [.ref b1, .int 0]), (b1, u1, .inr .byte, c1.map bt), (ma, true, .inl kM, [.ref t1, .ref t2, .null]), (t3, true, .inl kS, [.ref b3, .int 0]), (b3, u3, .inr .byte, c3.map bt)] 27 [.val (.ref ma), .val (.ref t3)] [.ref ba, .ref t3]
  refine wp_virtual C (al := []) (rest := [.ref t3]) (L1 := [(t2, true, .inl kS, [.ref b2, .int 0]), (b2, u2, .inr .byte, c2.map bt), (t1, true, .inl kS, [.ref b1, .int 0]), (b1, u1, .inr .byte, c1.map bt), (ma, true, .inl kM, [.ref t1, .ref t2, .null]), (t3, true, .inl kS, [.ref b3, .int 0]), (b3, u3, .inr .byte, c3.map bt)]) (W := 1) (cells' := 6) (slots' := 48) 12 30 0 (rm_tos l Z a0 hw ba vb ([] ++ c1 ++ [47] ++ c2) n3 cz S1 hcz Hn3 (by simp; omega)) rfl rfl rfl (wd hw 122 rfl) (wd hw 123 rfl) (nf_self (wd hw 125 rfl)) (wd hw 125 rfl) (wd hw 124 rfl) (wd hw 126 rfl) (wd hw 57 rfl) (by decide) pd25 rfl rfl rfl rfl (by decide) (by decide) rfl rfl rfl (by decide) (by decide) (fun v L' hQ => ?_)
  obtain ⟨ra, rb, rfl, rfl⟩ := hQ
  show Wp K 6 48 [(ra, true, .inl kS, [.ref rb, .int 0]), (rb, true, .inr .byte, ([] ++ c1 ++ [47] ++ c2).map bt), (t2, true, .inl kS, [.ref b2, .int 0]), (b2, u2, .inr .byte, c2.map bt), (t1, true, .inl kS, [.ref b1, .int 0]), (b1, u1, .inr .byte, c1.map bt), (ma, true, .inl kM, [.ref t1, .ref t2, .null]), (t3, true, .inl kS, [.ref b3, .int 0]), (b3, u3, .inr .byte, c3.map bt)] 30 [.val (.ref ma), .val (.ref t3)] [.ref ra, .ref t3]
  refine wp_front C 1 (L' := [(rb, true, .inr .byte, ([] ++ c1 ++ [47] ++ c2).map bt), (ra, true, .inl kS, [.ref rb, .int 0]), (t2, true, .inl kS, [.ref b2, .int 0]), (b2, u2, .inr .byte, c2.map bt), (t1, true, .inl kS, [.ref b1, .int 0]), (b1, u1, .inr .byte, c1.map bt), (ma, true, .inl kM, [.ref t1, .ref t2, .null]), (t3, true, .inl kS, [.ref b3, .int 0]), (b3, u3, .inr .byte, c3.map bt)]) rfl ?_
  refine wp_front C 1 (L' := [(ra, true, .inl kS, [.ref rb, .int 0]), (rb, true, .inr .byte, ([] ++ c1 ++ [47] ++ c2).map bt), (t2, true, .inl kS, [.ref b2, .int 0]), (b2, u2, .inr .byte, c2.map bt), (t1, true, .inl kS, [.ref b1, .int 0]), (b1, u1, .inr .byte, c1.map bt), (ma, true, .inl kM, [.ref t1, .ref t2, .null]), (t3, true, .inl kS, [.ref b3, .int 0]), (b3, u3, .inr .byte, c3.map bt)]) rfl ?_
  refine wp_front C 8 (L' := [(b3, u3, .inr .byte, c3.map bt), (ra, true, .inl kS, [.ref rb, .int 0]), (rb, true, .inr .byte, ([] ++ c1 ++ [47] ++ c2).map bt), (t2, true, .inl kS, [.ref b2, .int 0]), (b2, u2, .inr .byte, c2.map bt), (t1, true, .inl kS, [.ref b1, .int 0]), (b1, u1, .inr .byte, c1.map bt), (ma, true, .inl kM, [.ref t1, .ref t2, .null]), (t3, true, .inl kS, [.ref b3, .int 0])]) rfl ?_
  refine wp_front C 8 (L' := [(t3, true, .inl kS, [.ref b3, .int 0]), (b3, u3, .inr .byte, c3.map bt), (ra, true, .inl kS, [.ref rb, .int 0]), (rb, true, .inr .byte, ([] ++ c1 ++ [47] ++ c2).map bt), (t2, true, .inl kS, [.ref b2, .int 0]), (b2, u2, .inr .byte, c2.map bt), (t1, true, .inl kS, [.ref b1, .int 0]), (b1, u1, .inr .byte, c1.map bt), (ma, true, .inl kM, [.ref t1, .ref t2, .null])]) rfl ?_
  refine wp_virtual C (al := [.ref ra]) (rest := []) (L1 := [(t2, true, .inl kS, [.ref b2, .int 0]), (b2, u2, .inr .byte, c2.map bt), (t1, true, .inl kS, [.ref b1, .int 0]), (b1, u1, .inr .byte, c1.map bt), (ma, true, .inl kM, [.ref t1, .ref t2, .null])]) (W := 0) (cells' := 6) (slots' := 48) 13 33 0 (rm_eqi l Z a0 hw t3 b3 ra rb u3 c3 ([] ++ c1 ++ [47] ++ c2) cz S1 hcz l3 (lat_app (lat_app (lat_app lat_nil l1) lat_sl) l2) (by omega) (by simp; omega)) rfl rfl rfl (wd hw 167 rfl) (wd hw 168 rfl) (nf_self (wd hw 170 rfl)) (wd hw 170 rfl) (wd hw 169 rfl) (wd hw 171 rfl) (wd hw 12 rfl) (by decide) pd26 rfl rfl rfl rfl (by decide) (by decide) rfl rfl rfl (by decide) (by decide) (fun v L' hQ => ?_)
  obtain ⟨rfl, rfl⟩ := hQ
  show Wp K 6 48 [(t3, true, .inl kS, [.ref b3, .int 0]), (b3, u3, .inr .byte, c3.map bt), (ra, true, .inl kS, [.ref rb, .int 0]), (rb, true, .inr .byte, ([] ++ c1 ++ [47] ++ c2).map bt), (t2, true, .inl kS, [.ref b2, .int 0]), (b2, u2, .inr .byte, c2.map bt), (t1, true, .inl kS, [.ref b1, .int 0]), (b1, u1, .inr .byte, c1.map bt), (ma, true, .inl kM, [.ref t1, .ref t2, .null])] 33 [.val (.ref ma), .val (.ref t3)] [.int (if c3.map foldV = ([] ++ c1 ++ [47] ++ c2).map foldV then 1 else 0)]
  refine wp_sub C (List.nil_sublist _) ?_
  show Wp K 6 48 [] 33 [.val (.ref ma), .val (.ref t3)] [.int (if c3.map foldV = ([] ++ c1 ++ [47] ++ c2).map foldV then 1 else 0)]
  exact wp_retN C 14 rfl (Or.inl rfl) nar_ite (by decide) (by decide) (⟨rfl, rfl⟩)
theorem pn39 : plainFor x = true := by first | (refine plainFor_of_name ?_; simp [plainName, overriddenIn]; done) | (refine plainFor_of_name ?_; decide +kernel) | decide +kernel
theorem pd27 : parseMethodDescriptor "(IIIIII)I" = some ⟨[.int, .int, .int, .int, .int, .int], (some .int)⟩ := by decide +kernel
theorem pd28 : parseMethodDescriptor "(IJII)I" = some ⟨[.int, .long, .int, .int], (some .int)⟩ := by decide +kernel
theorem pd29 : parseMethodDescriptor "(IIIIII)Ljava/lang/String;" = some ⟨[.int, .int, .int, .int, .int, .int], (some (.object "java/lang/String"))⟩ := by decide +kernel
theorem pd30 : parseMethodDescriptor "(Ljava/lang/String;Ljava/lang/String;Ljava/util/Map;)V" = some ⟨[(.object "java/lang/String"), (.object "java/lang/String"), (.object "java/util/Map")], none⟩ := by decide +kernel
theorem pd31 : parseMethodDescriptor "(IIII)Z" = some ⟨[.int, .int, .int, .int], (some .boolean)⟩ := by decide +kernel
def B_rm_law : Prog := [(0, .iload_n 0, 1), (1, .iconst 3, 1), (2, .iand, 1), (3, .iconst 3, 1), (4, .irem, 1), (5, .istore 5, 2), (7, .iload_n 0, 1), (8, .bipush 8, 2), (10, .iushr, 1), (11, .sipush 255, 3), (14, .iand, 1), (15, .istore 6, 2), (17, .iload_n 0, 1), (18, .bipush 16, 2), (20, .iushr, 1), (21, .sipush 255, 3), (24, .iand, 1), (25, .istore 7, 2), (27, .iload_n 1, 1), (28, .iconst 3, 1), (29, .iand, 1), (30, .iconst 3, 1), (31, .irem, 1), (32, .istore 8, 2), (34, .iload_n 1, 1), (35, .bipush 8, 2), (37, .iushr, 1), (38, .sipush 255, 3), (41, .iand, 1), (42, .istore 9, 2), (44, .iload_n 1, 1), (45, .bipush 16, 2), (47, .iushr, 1), (48, .sipush 255, 3), (51, .iand, 1), (52, .istore 10, 2), (54, .iload 5, 2), (56, .iconst 1, 1), (57, .iadd, 1), (58, .iload 8, 2), (60, .iadd, 1), (61, .istore 11, 2), (63, .iload 4, 2), (65, .iconst 1, 1), (66, .iand, 1), (67, .ifCond .eq 8, 3), (70, .iload 11, 2), (72, .goto 13, 3), (75, .iload 4, 2), (77, .iconst 1, 1), (78, .iushr, 1), (79, .bipush 7, 2), (81, .iand, 1), (82, .bipush 6, 2), (84, .irem, 1), (85, .istore 12, 2), (87, .iconst 0, 1), (88, .iload 5, 2), (90, .iload 6, 2), (92, .iload 7, 2), (94, .iload 9, 2), (96, .iload 10, 2), (98, .invokestatic 7, 3), (101, .istore 13, 2), (103, .iconst 1, 1), (104, .iload 5, 2), (106, .iload 6, 2), (108, .iload 7, 2), (110, .iload 9, 2), (112, .iload 10, 2), (114, .invokestatic 7, 3), (117, .istore 14, 2), (119, .iconst 2, 1), (120, .iload 5, 2), (122, .iload 6, 2), (124, .iload 7, 2), (126, .iload 9, 2), (128, .iload 10, 2), (130, .invokestatic 7, 3), (133, .istore 15, 2), (135, .iconst 3, 1), (136, .iload 5, 2), (138, .iload 6, 2), (140, .iload 7, 2), (142, .iload 9, 2), (144, .iload 10, 2), (146, .invokestatic 7, 3), (149, .istore 16, 2), (151, .iconst 4, 1), (152, .iload 5, 2), (154, .iload 6, 2), (156, .iload 7, 2), (158, .iload 9, 2), (160, .iload 10, 2), (162, .invokestatic 7, 3), (165, .istore 17, 2), (167, .iconst 0, 1), (168, .lload_n 2, 1), (169, .iload 4, 2), (171, .iload 13, 2), (173, .invokestatic 13, 3), (176, .istore 18, 2), (178, .iconst 1, 1), (179, .lload_n 2, 1), (180, .iload 4, 2), (182, .iload 14, 2), (184, .invokestatic 13, 3), (187, .istore 19, 2), (189, .iconst 2, 1), (190, .lload_n 2, 1), (191, .iload 4, 2), (193, .iload 15, 2), (195, .invokestatic 13, 3), (198, .istore 20, 2), (200, .iconst 3, 1), (201, .lload_n 2, 1), (202, .iload 4, 2), (204, .iload 16, 2), (206, .invokestatic 13, 3), (209, .istore 21, 2), (211, .iconst 4, 1), (212, .lload_n 2, 1), (213, .iload 4, 2), (215, .iload 17, 2), (217, .invokestatic 13, 3), (220, .istore 22, 2), (222, .iload 5, 2), (224, .iload 6, 2), (226, .iload 7, 2), (228, .iconst 0, 1), (229, .iconst 0, 1), (230, .iconst 0, 1), (231, .invokestatic 17, 3), (234, .astore 23, 2), (236, .iload 8, 2), (238, .iload 9, 2), (240, .iload 10, 2), (242, .iconst 0, 1), (243, .iconst 0, 1), (244, .iconst 0, 1), (245, .invokestatic 17, 3), (248, .astore 24, 2), (250, .iload 12, 2), (252, .iload 18, 2), (254, .iload 19, 2), (256, .iload 20, 2), (258, .iload 21, 2), (260, .iload 22, 2), (262, .invokestatic 17, 3), (265, .astore 25, 2), (267, .new 21, 3), (270, .dup, 1), (271, .aload 23, 2), (273, .aload 24, 2), (275, .aconst_null, 1), (276, .invokespecial 23, 3), (279, .astore 26, 2), (281, .aload 26, 2), (283, .aload 25, 2), (285, .invokevirtual 26, 3), (288, .istore 27, 2), (290, .iload 12, 2), (292, .iload 11, 2), (294, .if_icmp .ne 72, 3), (297, .iconst 0, 1), (298, .iload 12, 2), (300, .iload 18, 2), (302, .iload 13, 2), (304, .invokestatic 30, 3), (307, .ifCond .eq 59, 3), (310, .iconst 1, 1), (311, .iload 12, 2), (313, .iload 19, 2), (315, .iload 14, 2), (317, .invokestatic 30, 3), (320, .ifCond .eq 46, 3), (323, .iconst 2, 1), (324, .iload 12, 2), (326, .iload 20, 2), (328, .iload 15, 2), (330, .invokestatic 30, 3), (333, .ifCond .eq 33, 3), (336, .iconst 3, 1), (337, .iload 12, 2), (339, .iload 21, 2), (341, .iload 16, 2), (343, .invokestatic 30, 3), (346, .ifCond .eq 20, 3), (349, .iconst 4, 1), (350, .iload 12, 2), (352, .iload 22, 2), (354, .iload 17, 2), (356, .invokestatic 30, 3), (359, .ifCond .eq 7, 3), (362, .iconst 1, 1), (363, .goto 4, 3), (366, .iconst 0, 1), (367, .istore 28, 2), (369, .iload 27, 2), (371, .iload 28, 2), (373, .if_icmp .ne 7, 3), (376, .iconst 1, 1), (377, .goto 4, 3), (381, .ireturn, 1)]
theorem B_rm_law_ok : okB code B_rm_law = true := by decide +kernel
set_option maxRecDepth 65536 in
set_option maxHeartbeats 40000000 in
theorem rm_law (l : Launch) (Z : State) (a0 : Array Value) (hw : ∀ d ∈ tables_1, d.before a0 Z = true) (ty sb : Int32) (fr : Int64) (mode : Int32) (cz : Int32) (S1 : Sta Z Z.heap "java/lang/String" "COMPACT_STRINGS" "Z" (.int cz)) (hcz : cz ≠ 0) : Ct l Z EL1 nw1 x code maxLocals ret tables_1 room_1 [.int ty, .int sb, .long fr, .int mode] [] (fun v L => v = some (.int 1)) := by
  refine ct_of pn39 (B := B_rm_law) (ls := [.val (.int ty), .val (.int sb), .val (.long fr), .second, .val (.int mode), .unset, .unset, .unset, .unset, .unset, .unset, .unset, .unset, .unset, .unset, .unset, .unset, .unset, .unset, .unset, .unset, .unset, .unset, .unset, .unset, .unset, .unset, .unset, .unset]) B_rm_law_ok (ew1 hw) (fun m => by first | (simp [entryFrame, mkF, argsToLocals, Value.category, maxLocals]; done) | rfl) (fun K C => ?_)
  refine wp_blk C 0 4 (pc' := 4) (ls' := [.val (.int ty), .val (.int sb), .val (.long fr), .second, .val (.int mode), .unset, .unset, .unset, .unset, .unset, .unset, .unset, .unset, .unset, .unset, .unset, .unset, .unset, .unset, .unset, .unset, .unset, .unset, .unset, .unset, .unset, .unset, .unset, .unset]) (st' := [.int 3, .int (ty &&& 3)]) rfl ?_
  refine wp_irem C 4 5 rfl rfl (by decide) ?_
  refine wp_blk C 5 1 (pc' := 7) (ls' := [.val (.int ty), .val (.int sb), .val (.long fr), .second, .val (.int mode), .val (.int ((ty &&& 3) % 3)), .unset, .unset, .unset, .unset, .unset, .unset, .unset, .unset, .unset, .unset, .unset, .unset, .unset, .unset, .unset, .unset, .unset, .unset, .unset, .unset, .unset, .unset, .unset]) (st' := []) rfl ?_
  obtain ⟨tl, htl⟩ : ∃ nn0 : Int32, nn0 = (ty &&& 3) % 3 := ⟨_, rfl⟩
  rw [← htl]
  have Htl : tl = 0 ∨ tl = 1 ∨ tl = 2 := by rw [htl]; exact r3 _ (c_and ty 3 (by decide)).1
  refine wp_blk C 6 6 (pc' := 17) (ls' := [.val (.int ty), .val (.int sb), .val (.long fr), .second, .val (.int mode), .val (.int tl), .val (.int ((ush ty 8) &&& 255)), .unset, .unset, .unset, .unset, .unset, .unset, .unset, .unset, .unset, .unset, .unset, .unset, .unset, .unset, .unset, .unset, .unset, .unset, .unset, .unset, .unset, .unset]) (st' := []) rfl ?_
  obtain ⟨t0, ht0⟩ : ∃ nn0 : Int32, nn0 = (ush ty 8) &&& 255 := ⟨_, rfl⟩
  rw [← ht0]
  have Ht0 : 0 ≤ t0.toInt ∧ t0.toInt ≤ 255 := by rw [ht0]; exact lat_and _
  refine wp_blk C 12 6 (pc' := 27) (ls' := [.val (.int ty), .val (.int sb), .val (.long fr), .second, .val (.int mode), .val (.int tl), .val (.int t0), .val (.int ((ush ty 16) &&& 255)), .unset, .unset, .unset, .unset, .unset, .unset, .unset, .unset, .unset, .unset, .unset, .unset, .unset, .unset, .unset, .unset, .unset, .unset, .unset, .unset, .unset]) (st' := []) rfl ?_
  obtain ⟨t1, ht1⟩ : ∃ nn0 : Int32, nn0 = (ush ty 16) &&& 255 := ⟨_, rfl⟩
  rw [← ht1]
  have Ht1 : 0 ≤ t1.toInt ∧ t1.toInt ≤ 255 := by rw [ht1]; exact lat_and _
  refine wp_blk C 18 4 (pc' := 31) (ls' := [.val (.int ty), .val (.int sb), .val (.long fr), .second, .val (.int mode), .val (.int tl), .val (.int t0), .val (.int t1), .unset, .unset, .unset, .unset, .unset, .unset, .unset, .unset, .unset, .unset, .unset, .unset, .unset, .unset, .unset, .unset, .unset, .unset, .unset, .unset, .unset]) (st' := [.int 3, .int (sb &&& 3)]) rfl ?_
  refine wp_irem C 22 32 rfl rfl (by decide) ?_
  refine wp_blk C 23 1 (pc' := 34) (ls' := [.val (.int ty), .val (.int sb), .val (.long fr), .second, .val (.int mode), .val (.int tl), .val (.int t0), .val (.int t1), .val (.int ((sb &&& 3) % 3)), .unset, .unset, .unset, .unset, .unset, .unset, .unset, .unset, .unset, .unset, .unset, .unset, .unset, .unset, .unset, .unset, .unset, .unset, .unset, .unset]) (st' := []) rfl ?_
  obtain ⟨sl, hsl⟩ : ∃ nn0 : Int32, nn0 = (sb &&& 3) % 3 := ⟨_, rfl⟩
  rw [← hsl]
  have Hsl : sl = 0 ∨ sl = 1 ∨ sl = 2 := by rw [hsl]; exact r3 _ (c_and sb 3 (by decide)).1
  refine wp_blk C 24 6 (pc' := 44) (ls' := [.val (.int ty), .val (.int sb), .val (.long fr), .second, .val (.int mode), .val (.int tl), .val (.int t0), .val (.int t1), .val (.int sl), .val (.int ((ush sb 8) &&& 255)), .unset, .unset, .unset, .unset, .unset, .unset, .unset, .unset, .unset, .unset, .unset, .unset, .unset, .unset, .unset, .unset, .unset, .unset, .unset]) (st' := []) rfl ?_
  obtain ⟨s0, hs0⟩ : ∃ nn0 : Int32, nn0 = (ush sb 8) &&& 255 := ⟨_, rfl⟩
  rw [← hs0]
  have Hs0 : 0 ≤ s0.toInt ∧ s0.toInt ≤ 255 := by rw [hs0]; exact lat_and _
  refine wp_blk C 30 6 (pc' := 54) (ls' := [.val (.int ty), .val (.int sb), .val (.long fr), .second, .val (.int mode), .val (.int tl), .val (.int t0), .val (.int t1), .val (.int sl), .val (.int s0), .val (.int ((ush sb 16) &&& 255)), .unset, .unset, .unset, .unset, .unset, .unset, .unset, .unset, .unset, .unset, .unset, .unset, .unset, .unset, .unset, .unset, .unset, .unset]) (st' := []) rfl ?_
  obtain ⟨s1, hs1⟩ : ∃ nn0 : Int32, nn0 = (ush sb 16) &&& 255 := ⟨_, rfl⟩
  rw [← hs1]
  have Hs1 : 0 ≤ s1.toInt ∧ s1.toInt ≤ 255 := by rw [hs1]; exact lat_and _
  refine wp_blk C 36 6 (pc' := 63) (ls' := [.val (.int ty), .val (.int sb), .val (.long fr), .second, .val (.int mode), .val (.int tl), .val (.int t0), .val (.int t1), .val (.int sl), .val (.int s0), .val (.int s1), .val (.int ((tl + 1) + sl)), .unset, .unset, .unset, .unset, .unset, .unset, .unset, .unset, .unset, .unset, .unset, .unset, .unset, .unset, .unset, .unset, .unset]) (st' := []) rfl ?_
  obtain ⟨tot, htot⟩ : ∃ nn0 : Int32, nn0 = (tl + 1) + sl := ⟨_, rfl⟩
  rw [← htot]
  have J87 : ∀ el : Int32, (0 ≤ el.toInt ∧ el.toInt ≤ 5) → Wp K 0 0 [] 87 [.val (.int ty), .val (.int sb), .val (.long fr), .second, .val (.int mode), .val (.int tl), .val (.int t0), .val (.int t1), .val (.int sl), .val (.int s0), .val (.int s1), .val (.int tot), .val (.int el), .unset, .unset, .unset, .unset, .unset, .unset, .unset, .unset, .unset, .unset, .unset, .unset, .unset, .unset, .unset, .unset] [] := by
    intro el Hel
    refine wp_blk C 56 6 (pc' := 98) (ls' := [.val (.int ty), .val (.int sb), .val (.long fr), .second, .val (.int mode), .val (.int tl), .val (.int t0), .val (.int t1), .val (.int sl), .val (.int s0), .val (.int s1), .val (.int tot), .val (.int el), .unset, .unset, .unset, .unset, .unset, .unset, .unset, .unset, .unset, .unset, .unset, .unset, .unset, .unset, .unset, .unset]) (st' := [.int s1, .int s0, .int t1, .int t0, .int tl, .int 0]) rfl ?_
    refine wp_static C (al := [.int 0, .int tl, .int t0, .int t1, .int s0, .int s1]) (rest := []) (L1 := []) (W := 0) (cells' := 0) (slots' := 0) 62 101 (rm_tgt l Z a0 hw 0 tl t0 t1 s0 s1) rfl rfl (wd hw 0 rfl) (wd hw 1 rfl) (wd hw 3 rfl) (wd hw 2 rfl) (by decide) pd27 rfl rfl rfl rfl (by decide) (by decide) rfl rfl rfl (by decide) (by decide) (fun v L' hQ => ?_)
    obtain ⟨rfl, rfl⟩ := hQ
    show Wp K 0 0 [] 101 [.val (.int ty), .val (.int sb), .val (.long fr), .second, .val (.int mode), .val (.int tl), .val (.int t0), .val (.int t1), .val (.int sl), .val (.int s0), .val (.int s1), .val (.int tot), .val (.int el), .unset, .unset, .unset, .unset, .unset, .unset, .unset, .unset, .unset, .unset, .unset, .unset, .unset, .unset, .unset, .unset] [.int (tgtV 0 tl t0 t1 s0 s1)]
    refine wp_blk C 63 1 (pc' := 103) (ls' := [.val (.int ty), .val (.int sb), .val (.long fr), .second, .val (.int mode), .val (.int tl), .val (.int t0), .val (.int t1), .val (.int sl), .val (.int s0), .val (.int s1), .val (.int tot), .val (.int el), .val (.int (tgtV 0 tl t0 t1 s0 s1)), .unset, .unset, .unset, .unset, .unset, .unset, .unset, .unset, .unset, .unset, .unset, .unset, .unset, .unset, .unset]) (st' := []) rfl ?_
    obtain ⟨g0, hg0⟩ : ∃ nn0 : Int32, nn0 = tgtV 0 tl t0 t1 s0 s1 := ⟨_, rfl⟩
    rw [← hg0]
    have Hg0 : 0 ≤ g0.toInt ∧ g0.toInt ≤ 255 := by rw [hg0]; exact tgt_lat Ht0 Ht1 Hs0 Hs1
    refine wp_blk C 64 6 (pc' := 114) (ls' := [.val (.int ty), .val (.int sb), .val (.long fr), .second, .val (.int mode), .val (.int tl), .val (.int t0), .val (.int t1), .val (.int sl), .val (.int s0), .val (.int s1), .val (.int tot), .val (.int el), .val (.int g0), .unset, .unset, .unset, .unset, .unset, .unset, .unset, .unset, .unset, .unset, .unset, .unset, .unset, .unset, .unset]) (st' := [.int s1, .int s0, .int t1, .int t0, .int tl, .int 1]) rfl ?_
    refine wp_static C (al := [.int 1, .int tl, .int t0, .int t1, .int s0, .int s1]) (rest := []) (L1 := []) (W := 0) (cells' := 0) (slots' := 0) 70 117 (rm_tgt l Z a0 hw 1 tl t0 t1 s0 s1) rfl rfl (wd hw 0 rfl) (wd hw 1 rfl) (wd hw 3 rfl) (wd hw 2 rfl) (by decide) pd27 rfl rfl rfl rfl (by decide) (by decide) rfl rfl rfl (by decide) (by decide) (fun v L' hQ => ?_)
    obtain ⟨rfl, rfl⟩ := hQ
    show Wp K 0 0 [] 117 [.val (.int ty), .val (.int sb), .val (.long fr), .second, .val (.int mode), .val (.int tl), .val (.int t0), .val (.int t1), .val (.int sl), .val (.int s0), .val (.int s1), .val (.int tot), .val (.int el), .val (.int g0), .unset, .unset, .unset, .unset, .unset, .unset, .unset, .unset, .unset, .unset, .unset, .unset, .unset, .unset, .unset] [.int (tgtV 1 tl t0 t1 s0 s1)]
    refine wp_blk C 71 1 (pc' := 119) (ls' := [.val (.int ty), .val (.int sb), .val (.long fr), .second, .val (.int mode), .val (.int tl), .val (.int t0), .val (.int t1), .val (.int sl), .val (.int s0), .val (.int s1), .val (.int tot), .val (.int el), .val (.int g0), .val (.int (tgtV 1 tl t0 t1 s0 s1)), .unset, .unset, .unset, .unset, .unset, .unset, .unset, .unset, .unset, .unset, .unset, .unset, .unset, .unset]) (st' := []) rfl ?_
    obtain ⟨g1, hg1⟩ : ∃ nn0 : Int32, nn0 = tgtV 1 tl t0 t1 s0 s1 := ⟨_, rfl⟩
    rw [← hg1]
    have Hg1 : 0 ≤ g1.toInt ∧ g1.toInt ≤ 255 := by rw [hg1]; exact tgt_lat Ht0 Ht1 Hs0 Hs1
    refine wp_blk C 72 6 (pc' := 130) (ls' := [.val (.int ty), .val (.int sb), .val (.long fr), .second, .val (.int mode), .val (.int tl), .val (.int t0), .val (.int t1), .val (.int sl), .val (.int s0), .val (.int s1), .val (.int tot), .val (.int el), .val (.int g0), .val (.int g1), .unset, .unset, .unset, .unset, .unset, .unset, .unset, .unset, .unset, .unset, .unset, .unset, .unset, .unset]) (st' := [.int s1, .int s0, .int t1, .int t0, .int tl, .int 2]) rfl ?_
    refine wp_static C (al := [.int 2, .int tl, .int t0, .int t1, .int s0, .int s1]) (rest := []) (L1 := []) (W := 0) (cells' := 0) (slots' := 0) 78 133 (rm_tgt l Z a0 hw 2 tl t0 t1 s0 s1) rfl rfl (wd hw 0 rfl) (wd hw 1 rfl) (wd hw 3 rfl) (wd hw 2 rfl) (by decide) pd27 rfl rfl rfl rfl (by decide) (by decide) rfl rfl rfl (by decide) (by decide) (fun v L' hQ => ?_)
    obtain ⟨rfl, rfl⟩ := hQ
    show Wp K 0 0 [] 133 [.val (.int ty), .val (.int sb), .val (.long fr), .second, .val (.int mode), .val (.int tl), .val (.int t0), .val (.int t1), .val (.int sl), .val (.int s0), .val (.int s1), .val (.int tot), .val (.int el), .val (.int g0), .val (.int g1), .unset, .unset, .unset, .unset, .unset, .unset, .unset, .unset, .unset, .unset, .unset, .unset, .unset, .unset] [.int (tgtV 2 tl t0 t1 s0 s1)]
    refine wp_blk C 79 1 (pc' := 135) (ls' := [.val (.int ty), .val (.int sb), .val (.long fr), .second, .val (.int mode), .val (.int tl), .val (.int t0), .val (.int t1), .val (.int sl), .val (.int s0), .val (.int s1), .val (.int tot), .val (.int el), .val (.int g0), .val (.int g1), .val (.int (tgtV 2 tl t0 t1 s0 s1)), .unset, .unset, .unset, .unset, .unset, .unset, .unset, .unset, .unset, .unset, .unset, .unset, .unset]) (st' := []) rfl ?_
    obtain ⟨g2, hg2⟩ : ∃ nn0 : Int32, nn0 = tgtV 2 tl t0 t1 s0 s1 := ⟨_, rfl⟩
    rw [← hg2]
    have Hg2 : 0 ≤ g2.toInt ∧ g2.toInt ≤ 255 := by rw [hg2]; exact tgt_lat Ht0 Ht1 Hs0 Hs1
    refine wp_blk C 80 6 (pc' := 146) (ls' := [.val (.int ty), .val (.int sb), .val (.long fr), .second, .val (.int mode), .val (.int tl), .val (.int t0), .val (.int t1), .val (.int sl), .val (.int s0), .val (.int s1), .val (.int tot), .val (.int el), .val (.int g0), .val (.int g1), .val (.int g2), .unset, .unset, .unset, .unset, .unset, .unset, .unset, .unset, .unset, .unset, .unset, .unset, .unset]) (st' := [.int s1, .int s0, .int t1, .int t0, .int tl, .int 3]) rfl ?_
    refine wp_static C (al := [.int 3, .int tl, .int t0, .int t1, .int s0, .int s1]) (rest := []) (L1 := []) (W := 0) (cells' := 0) (slots' := 0) 86 149 (rm_tgt l Z a0 hw 3 tl t0 t1 s0 s1) rfl rfl (wd hw 0 rfl) (wd hw 1 rfl) (wd hw 3 rfl) (wd hw 2 rfl) (by decide) pd27 rfl rfl rfl rfl (by decide) (by decide) rfl rfl rfl (by decide) (by decide) (fun v L' hQ => ?_)
    obtain ⟨rfl, rfl⟩ := hQ
    show Wp K 0 0 [] 149 [.val (.int ty), .val (.int sb), .val (.long fr), .second, .val (.int mode), .val (.int tl), .val (.int t0), .val (.int t1), .val (.int sl), .val (.int s0), .val (.int s1), .val (.int tot), .val (.int el), .val (.int g0), .val (.int g1), .val (.int g2), .unset, .unset, .unset, .unset, .unset, .unset, .unset, .unset, .unset, .unset, .unset, .unset, .unset] [.int (tgtV 3 tl t0 t1 s0 s1)]
    refine wp_blk C 87 1 (pc' := 151) (ls' := [.val (.int ty), .val (.int sb), .val (.long fr), .second, .val (.int mode), .val (.int tl), .val (.int t0), .val (.int t1), .val (.int sl), .val (.int s0), .val (.int s1), .val (.int tot), .val (.int el), .val (.int g0), .val (.int g1), .val (.int g2), .val (.int (tgtV 3 tl t0 t1 s0 s1)), .unset, .unset, .unset, .unset, .unset, .unset, .unset, .unset, .unset, .unset, .unset, .unset]) (st' := []) rfl ?_
    obtain ⟨g3, hg3⟩ : ∃ nn0 : Int32, nn0 = tgtV 3 tl t0 t1 s0 s1 := ⟨_, rfl⟩
    rw [← hg3]
    have Hg3 : 0 ≤ g3.toInt ∧ g3.toInt ≤ 255 := by rw [hg3]; exact tgt_lat Ht0 Ht1 Hs0 Hs1
    refine wp_blk C 88 6 (pc' := 162) (ls' := [.val (.int ty), .val (.int sb), .val (.long fr), .second, .val (.int mode), .val (.int tl), .val (.int t0), .val (.int t1), .val (.int sl), .val (.int s0), .val (.int s1), .val (.int tot), .val (.int el), .val (.int g0), .val (.int g1), .val (.int g2), .val (.int g3), .unset, .unset, .unset, .unset, .unset, .unset, .unset, .unset, .unset, .unset, .unset, .unset]) (st' := [.int s1, .int s0, .int t1, .int t0, .int tl, .int 4]) rfl ?_
    refine wp_static C (al := [.int 4, .int tl, .int t0, .int t1, .int s0, .int s1]) (rest := []) (L1 := []) (W := 0) (cells' := 0) (slots' := 0) 94 165 (rm_tgt l Z a0 hw 4 tl t0 t1 s0 s1) rfl rfl (wd hw 0 rfl) (wd hw 1 rfl) (wd hw 3 rfl) (wd hw 2 rfl) (by decide) pd27 rfl rfl rfl rfl (by decide) (by decide) rfl rfl rfl (by decide) (by decide) (fun v L' hQ => ?_)
    obtain ⟨rfl, rfl⟩ := hQ
    show Wp K 0 0 [] 165 [.val (.int ty), .val (.int sb), .val (.long fr), .second, .val (.int mode), .val (.int tl), .val (.int t0), .val (.int t1), .val (.int sl), .val (.int s0), .val (.int s1), .val (.int tot), .val (.int el), .val (.int g0), .val (.int g1), .val (.int g2), .val (.int g3), .unset, .unset, .unset, .unset, .unset, .unset, .unset, .unset, .unset, .unset, .unset, .unset] [.int (tgtV 4 tl t0 t1 s0 s1)]
    refine wp_blk C 95 1 (pc' := 167) (ls' := [.val (.int ty), .val (.int sb), .val (.long fr), .second, .val (.int mode), .val (.int tl), .val (.int t0), .val (.int t1), .val (.int sl), .val (.int s0), .val (.int s1), .val (.int tot), .val (.int el), .val (.int g0), .val (.int g1), .val (.int g2), .val (.int g3), .val (.int (tgtV 4 tl t0 t1 s0 s1)), .unset, .unset, .unset, .unset, .unset, .unset, .unset, .unset, .unset, .unset, .unset]) (st' := []) rfl ?_
    obtain ⟨g4, hg4⟩ : ∃ nn0 : Int32, nn0 = tgtV 4 tl t0 t1 s0 s1 := ⟨_, rfl⟩
    rw [← hg4]
    have Hg4 : 0 ≤ g4.toInt ∧ g4.toInt ≤ 255 := by rw [hg4]; exact tgt_lat Ht0 Ht1 Hs0 Hs1
    refine wp_blk C 96 4 (pc' := 173) (ls' := [.val (.int ty), .val (.int sb), .val (.long fr), .second, .val (.int mode), .val (.int tl), .val (.int t0), .val (.int t1), .val (.int sl), .val (.int s0), .val (.int s1), .val (.int tot), .val (.int el), .val (.int g0), .val (.int g1), .val (.int g2), .val (.int g3), .val (.int g4), .unset, .unset, .unset, .unset, .unset, .unset, .unset, .unset, .unset, .unset, .unset]) (st' := [.int g0, .int mode, .long fr, .int 0]) rfl ?_
    refine wp_static C (al := [.int 0, .long fr, .int mode, .int g0]) (rest := []) (L1 := []) (W := 0) (cells' := 0) (slots' := 0) 100 176 (rm_ch l Z a0 hw 0 fr mode g0 Hg0) rfl rfl (wd hw 4 rfl) (wd hw 5 rfl) (wd hw 6 rfl) (wd hw 2 rfl) (by decide) pd28 rfl rfl rfl rfl (by decide) (by decide) rfl rfl rfl (by decide) (by decide) (fun v L' hQ => ?_)
    obtain ⟨e0, rfl, He0, rfl⟩ := hQ
    show Wp K 0 0 [] 176 [.val (.int ty), .val (.int sb), .val (.long fr), .second, .val (.int mode), .val (.int tl), .val (.int t0), .val (.int t1), .val (.int sl), .val (.int s0), .val (.int s1), .val (.int tot), .val (.int el), .val (.int g0), .val (.int g1), .val (.int g2), .val (.int g3), .val (.int g4), .unset, .unset, .unset, .unset, .unset, .unset, .unset, .unset, .unset, .unset, .unset] [.int e0]
    refine wp_blk C 101 5 (pc' := 184) (ls' := [.val (.int ty), .val (.int sb), .val (.long fr), .second, .val (.int mode), .val (.int tl), .val (.int t0), .val (.int t1), .val (.int sl), .val (.int s0), .val (.int s1), .val (.int tot), .val (.int el), .val (.int g0), .val (.int g1), .val (.int g2), .val (.int g3), .val (.int g4), .val (.int e0), .unset, .unset, .unset, .unset, .unset, .unset, .unset, .unset, .unset, .unset]) (st' := [.int g1, .int mode, .long fr, .int 1]) rfl ?_
    refine wp_static C (al := [.int 1, .long fr, .int mode, .int g1]) (rest := []) (L1 := []) (W := 0) (cells' := 0) (slots' := 0) 106 187 (rm_ch l Z a0 hw 1 fr mode g1 Hg1) rfl rfl (wd hw 4 rfl) (wd hw 5 rfl) (wd hw 6 rfl) (wd hw 2 rfl) (by decide) pd28 rfl rfl rfl rfl (by decide) (by decide) rfl rfl rfl (by decide) (by decide) (fun v L' hQ => ?_)
    obtain ⟨e1, rfl, He1, rfl⟩ := hQ
    show Wp K 0 0 [] 187 [.val (.int ty), .val (.int sb), .val (.long fr), .second, .val (.int mode), .val (.int tl), .val (.int t0), .val (.int t1), .val (.int sl), .val (.int s0), .val (.int s1), .val (.int tot), .val (.int el), .val (.int g0), .val (.int g1), .val (.int g2), .val (.int g3), .val (.int g4), .val (.int e0), .unset, .unset, .unset, .unset, .unset, .unset, .unset, .unset, .unset, .unset] [.int e1]
    refine wp_blk C 107 5 (pc' := 195) (ls' := [.val (.int ty), .val (.int sb), .val (.long fr), .second, .val (.int mode), .val (.int tl), .val (.int t0), .val (.int t1), .val (.int sl), .val (.int s0), .val (.int s1), .val (.int tot), .val (.int el), .val (.int g0), .val (.int g1), .val (.int g2), .val (.int g3), .val (.int g4), .val (.int e0), .val (.int e1), .unset, .unset, .unset, .unset, .unset, .unset, .unset, .unset, .unset]) (st' := [.int g2, .int mode, .long fr, .int 2]) rfl ?_
    refine wp_static C (al := [.int 2, .long fr, .int mode, .int g2]) (rest := []) (L1 := []) (W := 0) (cells' := 0) (slots' := 0) 112 198 (rm_ch l Z a0 hw 2 fr mode g2 Hg2) rfl rfl (wd hw 4 rfl) (wd hw 5 rfl) (wd hw 6 rfl) (wd hw 2 rfl) (by decide) pd28 rfl rfl rfl rfl (by decide) (by decide) rfl rfl rfl (by decide) (by decide) (fun v L' hQ => ?_)
    obtain ⟨e2, rfl, He2, rfl⟩ := hQ
    show Wp K 0 0 [] 198 [.val (.int ty), .val (.int sb), .val (.long fr), .second, .val (.int mode), .val (.int tl), .val (.int t0), .val (.int t1), .val (.int sl), .val (.int s0), .val (.int s1), .val (.int tot), .val (.int el), .val (.int g0), .val (.int g1), .val (.int g2), .val (.int g3), .val (.int g4), .val (.int e0), .val (.int e1), .unset, .unset, .unset, .unset, .unset, .unset, .unset, .unset, .unset] [.int e2]
    refine wp_blk C 113 5 (pc' := 206) (ls' := [.val (.int ty), .val (.int sb), .val (.long fr), .second, .val (.int mode), .val (.int tl), .val (.int t0), .val (.int t1), .val (.int sl), .val (.int s0), .val (.int s1), .val (.int tot), .val (.int el), .val (.int g0), .val (.int g1), .val (.int g2), .val (.int g3), .val (.int g4), .val (.int e0), .val (.int e1), .val (.int e2), .unset, .unset, .unset, .unset, .unset, .unset, .unset, .unset]) (st' := [.int g3, .int mode, .long fr, .int 3]) rfl ?_
    refine wp_static C (al := [.int 3, .long fr, .int mode, .int g3]) (rest := []) (L1 := []) (W := 0) (cells' := 0) (slots' := 0) 118 209 (rm_ch l Z a0 hw 3 fr mode g3 Hg3) rfl rfl (wd hw 4 rfl) (wd hw 5 rfl) (wd hw 6 rfl) (wd hw 2 rfl) (by decide) pd28 rfl rfl rfl rfl (by decide) (by decide) rfl rfl rfl (by decide) (by decide) (fun v L' hQ => ?_)
    obtain ⟨e3, rfl, He3, rfl⟩ := hQ
    show Wp K 0 0 [] 209 [.val (.int ty), .val (.int sb), .val (.long fr), .second, .val (.int mode), .val (.int tl), .val (.int t0), .val (.int t1), .val (.int sl), .val (.int s0), .val (.int s1), .val (.int tot), .val (.int el), .val (.int g0), .val (.int g1), .val (.int g2), .val (.int g3), .val (.int g4), .val (.int e0), .val (.int e1), .val (.int e2), .unset, .unset, .unset, .unset, .unset, .unset, .unset, .unset] [.int e3]
    refine wp_blk C 119 5 (pc' := 217) (ls' := [.val (.int ty), .val (.int sb), .val (.long fr), .second, .val (.int mode), .val (.int tl), .val (.int t0), .val (.int t1), .val (.int sl), .val (.int s0), .val (.int s1), .val (.int tot), .val (.int el), .val (.int g0), .val (.int g1), .val (.int g2), .val (.int g3), .val (.int g4), .val (.int e0), .val (.int e1), .val (.int e2), .val (.int e3), .unset, .unset, .unset, .unset, .unset, .unset, .unset]) (st' := [.int g4, .int mode, .long fr, .int 4]) rfl ?_
    refine wp_static C (al := [.int 4, .long fr, .int mode, .int g4]) (rest := []) (L1 := []) (W := 0) (cells' := 0) (slots' := 0) 124 220 (rm_ch l Z a0 hw 4 fr mode g4 Hg4) rfl rfl (wd hw 4 rfl) (wd hw 5 rfl) (wd hw 6 rfl) (wd hw 2 rfl) (by decide) pd28 rfl rfl rfl rfl (by decide) (by decide) rfl rfl rfl (by decide) (by decide) (fun v L' hQ => ?_)
    obtain ⟨e4, rfl, He4, rfl⟩ := hQ
    show Wp K 0 0 [] 220 [.val (.int ty), .val (.int sb), .val (.long fr), .second, .val (.int mode), .val (.int tl), .val (.int t0), .val (.int t1), .val (.int sl), .val (.int s0), .val (.int s1), .val (.int tot), .val (.int el), .val (.int g0), .val (.int g1), .val (.int g2), .val (.int g3), .val (.int g4), .val (.int e0), .val (.int e1), .val (.int e2), .val (.int e3), .unset, .unset, .unset, .unset, .unset, .unset, .unset] [.int e4]
    refine wp_blk C 125 7 (pc' := 231) (ls' := [.val (.int ty), .val (.int sb), .val (.long fr), .second, .val (.int mode), .val (.int tl), .val (.int t0), .val (.int t1), .val (.int sl), .val (.int s0), .val (.int s1), .val (.int tot), .val (.int el), .val (.int g0), .val (.int g1), .val (.int g2), .val (.int g3), .val (.int g4), .val (.int e0), .val (.int e1), .val (.int e2), .val (.int e3), .val (.int e4), .unset, .unset, .unset, .unset, .unset, .unset]) (st' := [.int 0, .int 0, .int 0, .int t1, .int t0, .int tl]) rfl ?_
    refine wp_static C (al := [.int tl, .int t0, .int t1, .int 0, .int 0, .int 0]) (rest := []) (L1 := []) (W := 0) (cells' := 6) (slots' := 25) 132 234 (rm_sN l Z a0 hw tl t0 t1 0 0 0 cz S1 hcz Ht0 Ht1 z255 z255 z255) rfl rfl (wd hw 7 rfl) (wd hw 8 rfl) (wd hw 9 rfl) (wd hw 2 rfl) (by decide) pd29 rfl rfl rfl rfl (by decide) (by decide) rfl rfl rfl (by decide) (by decide) (fun v L' hQ => ?_)
    obtain ⟨a1, b1, u1, rfl, rfl⟩ := hQ
    show Wp K 6 25 [(a1, true, .inl kS, [.ref b1, .int 0]), (b1, u1, .inr .byte, (strN tl t0 t1 0 0 0).map bt)] 234 [.val (.int ty), .val (.int sb), .val (.long fr), .second, .val (.int mode), .val (.int tl), .val (.int t0), .val (.int t1), .val (.int sl), .val (.int s0), .val (.int s1), .val (.int tot), .val (.int el), .val (.int g0), .val (.int g1), .val (.int g2), .val (.int g3), .val (.int g4), .val (.int e0), .val (.int e1), .val (.int e2), .val (.int e3), .val (.int e4), .unset, .unset, .unset, .unset, .unset, .unset] [.ref a1]
    refine wp_blk C 133 7 (pc' := 245) (ls' := [.val (.int ty), .val (.int sb), .val (.long fr), .second, .val (.int mode), .val (.int tl), .val (.int t0), .val (.int t1), .val (.int sl), .val (.int s0), .val (.int s1), .val (.int tot), .val (.int el), .val (.int g0), .val (.int g1), .val (.int g2), .val (.int g3), .val (.int g4), .val (.int e0), .val (.int e1), .val (.int e2), .val (.int e3), .val (.int e4), .val (.ref a1), .unset, .unset, .unset, .unset, .unset]) (st' := [.int 0, .int 0, .int 0, .int s1, .int s0, .int sl]) rfl ?_
    refine wp_static C (al := [.int sl, .int s0, .int s1, .int 0, .int 0, .int 0]) (rest := []) (L1 := [(a1, true, .inl kS, [.ref b1, .int 0]), (b1, u1, .inr .byte, (strN tl t0 t1 0 0 0).map bt)]) (W := 0) (cells' := 12) (slots' := 50) 140 248 (rm_sN l Z a0 hw sl s0 s1 0 0 0 cz S1 hcz Hs0 Hs1 z255 z255 z255) rfl rfl (wd hw 7 rfl) (wd hw 8 rfl) (wd hw 9 rfl) (wd hw 2 rfl) (by decide) pd29 rfl rfl rfl rfl (by decide) (by decide) rfl rfl rfl (by decide) (by decide) (fun v L' hQ => ?_)
    obtain ⟨a2, b2, u2, rfl, rfl⟩ := hQ
    show Wp K 12 50 [(a2, true, .inl kS, [.ref b2, .int 0]), (b2, u2, .inr .byte, (strN sl s0 s1 0 0 0).map bt), (a1, true, .inl kS, [.ref b1, .int 0]), (b1, u1, .inr .byte, (strN tl t0 t1 0 0 0).map bt)] 248 [.val (.int ty), .val (.int sb), .val (.long fr), .second, .val (.int mode), .val (.int tl), .val (.int t0), .val (.int t1), .val (.int sl), .val (.int s0), .val (.int s1), .val (.int tot), .val (.int el), .val (.int g0), .val (.int g1), .val (.int g2), .val (.int g3), .val (.int g4), .val (.int e0), .val (.int e1), .val (.int e2), .val (.int e3), .val (.int e4), .val (.ref a1), .unset, .unset, .unset, .unset, .unset] [.ref a2]
    refine wp_blk C 141 7 (pc' := 262) (ls' := [.val (.int ty), .val (.int sb), .val (.long fr), .second, .val (.int mode), .val (.int tl), .val (.int t0), .val (.int t1), .val (.int sl), .val (.int s0), .val (.int s1), .val (.int tot), .val (.int el), .val (.int g0), .val (.int g1), .val (.int g2), .val (.int g3), .val (.int g4), .val (.int e0), .val (.int e1), .val (.int e2), .val (.int e3), .val (.int e4), .val (.ref a1), .val (.ref a2), .unset, .unset, .unset, .unset]) (st' := [.int e4, .int e3, .int e2, .int e1, .int e0, .int el]) rfl ?_
    refine wp_static C (al := [.int el, .int e0, .int e1, .int e2, .int e3, .int e4]) (rest := []) (L1 := [(a2, true, .inl kS, [.ref b2, .int 0]), (b2, u2, .inr .byte, (strN sl s0 s1 0 0 0).map bt), (a1, true, .inl kS, [.ref b1, .int 0]), (b1, u1, .inr .byte, (strN tl t0 t1 0 0 0).map bt)]) (W := 0) (cells' := 18) (slots' := 75) 148 265 (rm_sN l Z a0 hw el e0 e1 e2 e3 e4 cz S1 hcz He0 He1 He2 He3 He4) rfl rfl (wd hw 7 rfl) (wd hw 8 rfl) (wd hw 9 rfl) (wd hw 2 rfl) (by decide) pd29 rfl rfl rfl rfl (by decide) (by decide) rfl rfl rfl (by decide) (by decide) (fun v L' hQ => ?_)
    obtain ⟨a3, b3, u3, rfl, rfl⟩ := hQ
    show Wp K 18 75 [(a3, true, .inl kS, [.ref b3, .int 0]), (b3, u3, .inr .byte, (strN el e0 e1 e2 e3 e4).map bt), (a2, true, .inl kS, [.ref b2, .int 0]), (b2, u2, .inr .byte, (strN sl s0 s1 0 0 0).map bt), (a1, true, .inl kS, [.ref b1, .int 0]), (b1, u1, .inr .byte, (strN tl t0 t1 0 0 0).map bt)] 265 [.val (.int ty), .val (.int sb), .val (.long fr), .second, .val (.int mode), .val (.int tl), .val (.int t0), .val (.int t1), .val (.int sl), .val (.int s0), .val (.int s1), .val (.int tot), .val (.int el), .val (.int g0), .val (.int g1), .val (.int g2), .val (.int g3), .val (.int g4), .val (.int e0), .val (.int e1), .val (.int e2), .val (.int e3), .val (.int e4), .val (.ref a1), .val (.ref a2), .unset, .unset, .unset, .unset] [.ref a3]
    refine wp_blk C 149 1 (pc' := 267) (ls' := [.val (.int ty), .val (.int sb), .val (.long fr), .second, .val (.int mode), .val (.int tl), .val (.int t0), .val (.int t1), .val (.int sl), .val (.int s0), .val (.int s1), .val (.int tot), .val (.int el), .val (.int g0), .val (.int g1), .val (.int g2), .val (.int g3), .val (.int g4), .val (.int e0), .val (.int e1), .val (.int e2), .val (.int e3), .val (.int e4), .val (.ref a1), .val (.ref a2), .val (.ref a3), .unset, .unset, .unset]) (st' := []) rfl ?_
    refine wp_new C (Kc := kM) (cells' := 19) (slots' := 78) 150 270 rfl rfl (wd hw 32 rfl) (wd hw 33 rfl) (wd hw 34 rfl) (kM_ok hw) kM_df rfl rfl (by decide) (by decide) (fun ma => ?_)
    refine wp_blk C 151 4 (pc' := 276) (ls' := [.val (.int ty), .val (.int sb), .val (.long fr), .second, .val (.int mode), .val (.int tl), .val (.int t0), .val (.int t1), .val (.int sl), .val (.int s0), .val (.int s1), .val (.int tot), .val (.int el), .val (.int g0), .val (.int g1), .val (.int g2), .val (.int g3), .val (.int g4), .val (.int e0), .val (.int e1), .val (.int e2), .val (.int e3), .val (.int e4), .val (.ref a1), .val (.ref a2), .val (.ref a3), .unset, .unset, .unset]) (st' := [.null, .ref a2, .ref a1, .ref ma, .ref ma]) rfl ?_
    refine wp_init C (al := [.ref a1, .ref a2, .null]) (rest := [.ref ma]) (L1 := [(a3, true, .inl kS, [.ref b3, .int 0]), (b3, u3, .inr .byte, (strN el e0 e1 e2 e3 e4).map bt), (a2, true, .inl kS, [.ref b2, .int 0]), (b2, u2, .inr .byte, (strN sl s0 s1 0 0 0).map bt), (a1, true, .inl kS, [.ref b1, .int 0]), (b1, u1, .inr .byte, (strN tl t0 t1 0 0 0).map bt)]) (W := 1) (cells' := 19) (slots' := 78) 155 279 (rm_mt l Z a0 hw ma a1 a2) rfl rfl (wd hw 35 rfl) (wd hw 36 rfl) (wd hw 37 rfl) (wd hw 34 rfl) rfl (by decide) pd30 rfl rfl rfl rfl (by decide) (by decide) rfl rfl rfl (by decide) (by decide) (fun v L' hQ => ?_)
    obtain ⟨rfl, rfl⟩ := hQ
    show Wp K 19 78 [(ma, true, .inl kM, [.ref a1, .ref a2, .null]), (a3, true, .inl kS, [.ref b3, .int 0]), (b3, u3, .inr .byte, (strN el e0 e1 e2 e3 e4).map bt), (a2, true, .inl kS, [.ref b2, .int 0]), (b2, u2, .inr .byte, (strN sl s0 s1 0 0 0).map bt), (a1, true, .inl kS, [.ref b1, .int 0]), (b1, u1, .inr .byte, (strN tl t0 t1 0 0 0).map bt)] 279 [.val (.int ty), .val (.int sb), .val (.long fr), .second, .val (.int mode), .val (.int tl), .val (.int t0), .val (.int t1), .val (.int sl), .val (.int s0), .val (.int s1), .val (.int tot), .val (.int el), .val (.int g0), .val (.int g1), .val (.int g2), .val (.int g3), .val (.int g4), .val (.int e0), .val (.int e1), .val (.int e2), .val (.int e3), .val (.int e4), .val (.ref a1), .val (.ref a2), .val (.ref a3), .unset, .unset, .unset] [.ref ma]
    refine wp_blk C 156 3 (pc' := 285) (ls' := [.val (.int ty), .val (.int sb), .val (.long fr), .second, .val (.int mode), .val (.int tl), .val (.int t0), .val (.int t1), .val (.int sl), .val (.int s0), .val (.int s1), .val (.int tot), .val (.int el), .val (.int g0), .val (.int g1), .val (.int g2), .val (.int g3), .val (.int g4), .val (.int e0), .val (.int e1), .val (.int e2), .val (.int e3), .val (.int e4), .val (.ref a1), .val (.ref a2), .val (.ref a3), .val (.ref ma), .unset, .unset]) (st' := [.ref a3, .ref ma]) rfl ?_
    refine wp_front C 2 (L' := [(b3, u3, .inr .byte, (strN el e0 e1 e2 e3 e4).map bt), (ma, true, .inl kM, [.ref a1, .ref a2, .null]), (a3, true, .inl kS, [.ref b3, .int 0]), (a2, true, .inl kS, [.ref b2, .int 0]), (b2, u2, .inr .byte, (strN sl s0 s1 0 0 0).map bt), (a1, true, .inl kS, [.ref b1, .int 0]), (b1, u1, .inr .byte, (strN tl t0 t1 0 0 0).map bt)]) rfl ?_
    refine wp_front C 2 (L' := [(a3, true, .inl kS, [.ref b3, .int 0]), (b3, u3, .inr .byte, (strN el e0 e1 e2 e3 e4).map bt), (ma, true, .inl kM, [.ref a1, .ref a2, .null]), (a2, true, .inl kS, [.ref b2, .int 0]), (b2, u2, .inr .byte, (strN sl s0 s1 0 0 0).map bt), (a1, true, .inl kS, [.ref b1, .int 0]), (b1, u1, .inr .byte, (strN tl t0 t1 0 0 0).map bt)]) rfl ?_
    refine wp_front C 4 (L' := [(b2, u2, .inr .byte, (strN sl s0 s1 0 0 0).map bt), (a3, true, .inl kS, [.ref b3, .int 0]), (b3, u3, .inr .byte, (strN el e0 e1 e2 e3 e4).map bt), (ma, true, .inl kM, [.ref a1, .ref a2, .null]), (a2, true, .inl kS, [.ref b2, .int 0]), (a1, true, .inl kS, [.ref b1, .int 0]), (b1, u1, .inr .byte, (strN tl t0 t1 0 0 0).map bt)]) rfl ?_
    refine wp_front C 4 (L' := [(a2, true, .inl kS, [.ref b2, .int 0]), (b2, u2, .inr .byte, (strN sl s0 s1 0 0 0).map bt), (a3, true, .inl kS, [.ref b3, .int 0]), (b3, u3, .inr .byte, (strN el e0 e1 e2 e3 e4).map bt), (ma, true, .inl kM, [.ref a1, .ref a2, .null]), (a1, true, .inl kS, [.ref b1, .int 0]), (b1, u1, .inr .byte, (strN tl t0 t1 0 0 0).map bt)]) rfl ?_
    refine wp_front C 6 (L' := [(b1, u1, .inr .byte, (strN tl t0 t1 0 0 0).map bt), (a2, true, .inl kS, [.ref b2, .int 0]), (b2, u2, .inr .byte, (strN sl s0 s1 0 0 0).map bt), (a3, true, .inl kS, [.ref b3, .int 0]), (b3, u3, .inr .byte, (strN el e0 e1 e2 e3 e4).map bt), (ma, true, .inl kM, [.ref a1, .ref a2, .null]), (a1, true, .inl kS, [.ref b1, .int 0])]) rfl ?_
    refine wp_front C 6 (L' := [(a1, true, .inl kS, [.ref b1, .int 0]), (b1, u1, .inr .byte, (strN tl t0 t1 0 0 0).map bt), (a2, true, .inl kS, [.ref b2, .int 0]), (b2, u2, .inr .byte, (strN sl s0 s1 0 0 0).map bt), (a3, true, .inl kS, [.ref b3, .int 0]), (b3, u3, .inr .byte, (strN el e0 e1 e2 e3 e4).map bt), (ma, true, .inl kM, [.ref a1, .ref a2, .null])]) rfl ?_
    refine wp_front C 6 (L' := [(ma, true, .inl kM, [.ref a1, .ref a2, .null]), (a1, true, .inl kS, [.ref b1, .int 0]), (b1, u1, .inr .byte, (strN tl t0 t1 0 0 0).map bt), (a2, true, .inl kS, [.ref b2, .int 0]), (b2, u2, .inr .byte, (strN sl s0 s1 0 0 0).map bt), (a3, true, .inl kS, [.ref b3, .int 0]), (b3, u3, .inr .byte, (strN el e0 e1 e2 e3 e4).map bt)]) rfl ?_
    refine wp_virtual C (al := [.ref a3]) (rest := []) (L1 := []) (W := 0) (cells' := 25) (slots' := 126) 159 288 0 (rm_is l Z a0 hw ma a1 b1 a2 b2 a3 b3 u1 u2 u3 (strN tl t0 t1 0 0 0) (strN sl s0 s1 0 0 0) (strN el e0 e1 e2 e3 e4) cz S1 hcz (lat_strN Ht0 Ht1 z255 z255 z255) (len_strN _ _ _ _ _ _) (lat_strN Hs0 Hs1 z255 z255 z255) (len_strN _ _ _ _ _ _) (lat_strN He0 He1 He2 He3 He4) (len_strN _ _ _ _ _ _)) rfl rfl rfl (wd hw 50 rfl) (wd hw 51 rfl) (nf_self (wd hw 53 rfl)) (wd hw 53 rfl) (wd hw 52 rfl) (wd hw 54 rfl) (wd hw 34 rfl) (by decide) pd26 rfl rfl rfl rfl (by decide) (by decide) rfl rfl rfl (by decide) (by decide) (fun v L' hQ => ?_)
    obtain ⟨rfl, rfl⟩ := hQ
    show Wp K 25 126 [] 288 [.val (.int ty), .val (.int sb), .val (.long fr), .second, .val (.int mode), .val (.int tl), .val (.int t0), .val (.int t1), .val (.int sl), .val (.int s0), .val (.int s1), .val (.int tot), .val (.int el), .val (.int g0), .val (.int g1), .val (.int g2), .val (.int g3), .val (.int g4), .val (.int e0), .val (.int e1), .val (.int e2), .val (.int e3), .val (.int e4), .val (.ref a1), .val (.ref a2), .val (.ref a3), .val (.ref ma), .unset, .unset] [.int (if (strN el e0 e1 e2 e3 e4).map foldV = ([] ++ strN tl t0 t1 0 0 0 ++ [47] ++ strN sl s0 s1 0 0 0).map foldV then 1 else 0)]
    have law := is_law (t0 := t0) (t1 := t1) (s0 := s0) (s1 := s1) (e0 := e0) (e1 := e1) (e2 := e2) (e3 := e3) (e4 := e4) Htl Hsl Hel
    unfold IsL at law
    rw [← htot, ← hg0, ← hg1, ← hg2, ← hg3, ← hg4] at law
    refine wp_blk C 160 3 (pc' := 294) (ls' := [.val (.int ty), .val (.int sb), .val (.long fr), .second, .val (.int mode), .val (.int tl), .val (.int t0), .val (.int t1), .val (.int sl), .val (.int s0), .val (.int s1), .val (.int tot), .val (.int el), .val (.int g0), .val (.int g1), .val (.int g2), .val (.int g3), .val (.int g4), .val (.int e0), .val (.int e1), .val (.int e2), .val (.int e3), .val (.int e4), .val (.ref a1), .val (.ref a2), .val (.ref a3), .val (.ref ma), .val (.int (if (strN el e0 e1 e2 e3 e4).map foldV = ([] ++ strN tl t0 t1 0 0 0 ++ [47] ++ strN sl s0 s1 0 0 0).map foldV then 1 else 0)), .unset]) (st' := [.int tot, .int el]) rfl ?_
    refine wp_icmp C 163 366 297 rfl rfl rfl (by decide) (fun (h0 : (el : Int32) ≠ tot) => ?_) (fun (h0 : (el : Int32) = tot) => ?_)
    · rw [if_neg (fun q => h0 (law.mp q).1)]
      refine wp_blk C 196 1 (pc' := 367) (ls' := [.val (.int ty), .val (.int sb), .val (.long fr), .second, .val (.int mode), .val (.int tl), .val (.int t0), .val (.int t1), .val (.int sl), .val (.int s0), .val (.int s1), .val (.int tot), .val (.int el), .val (.int g0), .val (.int g1), .val (.int g2), .val (.int g3), .val (.int g4), .val (.int e0), .val (.int e1), .val (.int e2), .val (.int e3), .val (.int e4), .val (.ref a1), .val (.ref a2), .val (.ref a3), .val (.ref ma), .val (.int 0), .unset]) (st' := [.int 0]) rfl ?_
      refine wp_blk C 197 3 (pc' := 373) (ls' := [.val (.int ty), .val (.int sb), .val (.long fr), .second, .val (.int mode), .val (.int tl), .val (.int t0), .val (.int t1), .val (.int sl), .val (.int s0), .val (.int s1), .val (.int tot), .val (.int el), .val (.int g0), .val (.int g1), .val (.int g2), .val (.int g3), .val (.int g4), .val (.int e0), .val (.int e1), .val (.int e2), .val (.int e3), .val (.int e4), .val (.ref a1), .val (.ref a2), .val (.ref a3), .val (.ref ma), .val (.int 0), .val (.int 0)]) (st' := [.int 0, .int 0]) rfl ?_
      refine wp_icmp C 200 380 376 rfl rfl rfl (by decide) (fun h => absurd h (fun q : (0 : Int32) ≠ 0 => absurd q (by decide))) (fun _ => ?_)
      refine wp_blk C 201 2 (pc' := 381) (ls' := [.val (.int ty), .val (.int sb), .val (.long fr), .second, .val (.int mode), .val (.int tl), .val (.int t0), .val (.int t1), .val (.int sl), .val (.int s0), .val (.int s1), .val (.int tot), .val (.int el), .val (.int g0), .val (.int g1), .val (.int g2), .val (.int g3), .val (.int g4), .val (.int e0), .val (.int e1), .val (.int e2), .val (.int e3), .val (.int e4), .val (.ref a1), .val (.ref a2), .val (.ref a3), .val (.ref ma), .val (.int 0), .val (.int 0)]) (st' := [.int 1]) rfl ?_
      exact wp_retN C (z' := 1) 203 rfl (Or.inl rfl) rfl (by decide) (by decide) (rfl)
    · refine wp_blk C 164 4 (pc' := 304) (ls' := [.val (.int ty), .val (.int sb), .val (.long fr), .second, .val (.int mode), .val (.int tl), .val (.int t0), .val (.int t1), .val (.int sl), .val (.int s0), .val (.int s1), .val (.int tot), .val (.int el), .val (.int g0), .val (.int g1), .val (.int g2), .val (.int g3), .val (.int g4), .val (.int e0), .val (.int e1), .val (.int e2), .val (.int e3), .val (.int e4), .val (.ref a1), .val (.ref a2), .val (.ref a3), .val (.ref ma), .val (.int (if (strN el e0 e1 e2 e3 e4).map foldV = ([] ++ strN tl t0 t1 0 0 0 ++ [47] ++ strN sl s0 s1 0 0 0).map foldV then 1 else 0)), .unset]) (st' := [.int g0, .int e0, .int el, .int 0]) rfl ?_
      refine wp_static C (al := [.int 0, .int el, .int e0, .int g0]) (rest := []) (L1 := []) (W := 0) (cells' := 25) (slots' := 126) 168 307 (rm_same l Z a0 hw 0 el e0 g0) rfl rfl (wd hw 196 rfl) (wd hw 197 rfl) (wd hw 198 rfl) (wd hw 2 rfl) (by decide) pd31 rfl rfl rfl rfl (by decide) (by decide) rfl rfl rfl (by decide) (by decide) (fun v L' hQ => ?_)
      obtain ⟨rfl, rfl⟩ := hQ
      show Wp K 25 126 [] 307 [.val (.int ty), .val (.int sb), .val (.long fr), .second, .val (.int mode), .val (.int tl), .val (.int t0), .val (.int t1), .val (.int sl), .val (.int s0), .val (.int s1), .val (.int tot), .val (.int el), .val (.int g0), .val (.int g1), .val (.int g2), .val (.int g3), .val (.int g4), .val (.int e0), .val (.int e1), .val (.int e2), .val (.int e3), .val (.int e4), .val (.ref a1), .val (.ref a2), .val (.ref a3), .val (.ref ma), .val (.int (if (strN el e0 e1 e2 e3 e4).map foldV = ([] ++ strN tl t0 t1 0 0 0 ++ [47] ++ strN sl s0 s1 0 0 0).map foldV then 1 else 0)), .unset] [.int (if el.toInt ≤ (0 : Int32).toInt ∨ foldV e0 = foldV g0 then 1 else 0)]
      by_cases c0 : el.toInt ≤ (0 : Int32).toInt ∨ foldV e0 = foldV g0
      · rw [if_pos c0]
        refine wp_ifz C 169 366 310 rfl rfl rfl (by decide) (fun h => absurd h (fun q : (1 : Int32) = 0 => absurd q (by decide))) (fun _ => ?_)
        refine wp_blk C 170 4 (pc' := 317) (ls' := [.val (.int ty), .val (.int sb), .val (.long fr), .second, .val (.int mode), .val (.int tl), .val (.int t0), .val (.int t1), .val (.int sl), .val (.int s0), .val (.int s1), .val (.int tot), .val (.int el), .val (.int g0), .val (.int g1), .val (.int g2), .val (.int g3), .val (.int g4), .val (.int e0), .val (.int e1), .val (.int e2), .val (.int e3), .val (.int e4), .val (.ref a1), .val (.ref a2), .val (.ref a3), .val (.ref ma), .val (.int (if (strN el e0 e1 e2 e3 e4).map foldV = ([] ++ strN tl t0 t1 0 0 0 ++ [47] ++ strN sl s0 s1 0 0 0).map foldV then 1 else 0)), .unset]) (st' := [.int g1, .int e1, .int el, .int 1]) rfl ?_
        refine wp_static C (al := [.int 1, .int el, .int e1, .int g1]) (rest := []) (L1 := []) (W := 0) (cells' := 25) (slots' := 126) 174 320 (rm_same l Z a0 hw 1 el e1 g1) rfl rfl (wd hw 196 rfl) (wd hw 197 rfl) (wd hw 198 rfl) (wd hw 2 rfl) (by decide) pd31 rfl rfl rfl rfl (by decide) (by decide) rfl rfl rfl (by decide) (by decide) (fun v L' hQ => ?_)
        obtain ⟨rfl, rfl⟩ := hQ
        show Wp K 25 126 [] 320 [.val (.int ty), .val (.int sb), .val (.long fr), .second, .val (.int mode), .val (.int tl), .val (.int t0), .val (.int t1), .val (.int sl), .val (.int s0), .val (.int s1), .val (.int tot), .val (.int el), .val (.int g0), .val (.int g1), .val (.int g2), .val (.int g3), .val (.int g4), .val (.int e0), .val (.int e1), .val (.int e2), .val (.int e3), .val (.int e4), .val (.ref a1), .val (.ref a2), .val (.ref a3), .val (.ref ma), .val (.int (if (strN el e0 e1 e2 e3 e4).map foldV = ([] ++ strN tl t0 t1 0 0 0 ++ [47] ++ strN sl s0 s1 0 0 0).map foldV then 1 else 0)), .unset] [.int (if el.toInt ≤ (1 : Int32).toInt ∨ foldV e1 = foldV g1 then 1 else 0)]
        by_cases c1 : el.toInt ≤ (1 : Int32).toInt ∨ foldV e1 = foldV g1
        · rw [if_pos c1]
          refine wp_ifz C 175 366 323 rfl rfl rfl (by decide) (fun h => absurd h (fun q : (1 : Int32) = 0 => absurd q (by decide))) (fun _ => ?_)
          refine wp_blk C 176 4 (pc' := 330) (ls' := [.val (.int ty), .val (.int sb), .val (.long fr), .second, .val (.int mode), .val (.int tl), .val (.int t0), .val (.int t1), .val (.int sl), .val (.int s0), .val (.int s1), .val (.int tot), .val (.int el), .val (.int g0), .val (.int g1), .val (.int g2), .val (.int g3), .val (.int g4), .val (.int e0), .val (.int e1), .val (.int e2), .val (.int e3), .val (.int e4), .val (.ref a1), .val (.ref a2), .val (.ref a3), .val (.ref ma), .val (.int (if (strN el e0 e1 e2 e3 e4).map foldV = ([] ++ strN tl t0 t1 0 0 0 ++ [47] ++ strN sl s0 s1 0 0 0).map foldV then 1 else 0)), .unset]) (st' := [.int g2, .int e2, .int el, .int 2]) rfl ?_
          refine wp_static C (al := [.int 2, .int el, .int e2, .int g2]) (rest := []) (L1 := []) (W := 0) (cells' := 25) (slots' := 126) 180 333 (rm_same l Z a0 hw 2 el e2 g2) rfl rfl (wd hw 196 rfl) (wd hw 197 rfl) (wd hw 198 rfl) (wd hw 2 rfl) (by decide) pd31 rfl rfl rfl rfl (by decide) (by decide) rfl rfl rfl (by decide) (by decide) (fun v L' hQ => ?_)
          obtain ⟨rfl, rfl⟩ := hQ
          show Wp K 25 126 [] 333 [.val (.int ty), .val (.int sb), .val (.long fr), .second, .val (.int mode), .val (.int tl), .val (.int t0), .val (.int t1), .val (.int sl), .val (.int s0), .val (.int s1), .val (.int tot), .val (.int el), .val (.int g0), .val (.int g1), .val (.int g2), .val (.int g3), .val (.int g4), .val (.int e0), .val (.int e1), .val (.int e2), .val (.int e3), .val (.int e4), .val (.ref a1), .val (.ref a2), .val (.ref a3), .val (.ref ma), .val (.int (if (strN el e0 e1 e2 e3 e4).map foldV = ([] ++ strN tl t0 t1 0 0 0 ++ [47] ++ strN sl s0 s1 0 0 0).map foldV then 1 else 0)), .unset] [.int (if el.toInt ≤ (2 : Int32).toInt ∨ foldV e2 = foldV g2 then 1 else 0)]
          by_cases c2 : el.toInt ≤ (2 : Int32).toInt ∨ foldV e2 = foldV g2
          · rw [if_pos c2]
            refine wp_ifz C 181 366 336 rfl rfl rfl (by decide) (fun h => absurd h (fun q : (1 : Int32) = 0 => absurd q (by decide))) (fun _ => ?_)
            refine wp_blk C 182 4 (pc' := 343) (ls' := [.val (.int ty), .val (.int sb), .val (.long fr), .second, .val (.int mode), .val (.int tl), .val (.int t0), .val (.int t1), .val (.int sl), .val (.int s0), .val (.int s1), .val (.int tot), .val (.int el), .val (.int g0), .val (.int g1), .val (.int g2), .val (.int g3), .val (.int g4), .val (.int e0), .val (.int e1), .val (.int e2), .val (.int e3), .val (.int e4), .val (.ref a1), .val (.ref a2), .val (.ref a3), .val (.ref ma), .val (.int (if (strN el e0 e1 e2 e3 e4).map foldV = ([] ++ strN tl t0 t1 0 0 0 ++ [47] ++ strN sl s0 s1 0 0 0).map foldV then 1 else 0)), .unset]) (st' := [.int g3, .int e3, .int el, .int 3]) rfl ?_
            refine wp_static C (al := [.int 3, .int el, .int e3, .int g3]) (rest := []) (L1 := []) (W := 0) (cells' := 25) (slots' := 126) 186 346 (rm_same l Z a0 hw 3 el e3 g3) rfl rfl (wd hw 196 rfl) (wd hw 197 rfl) (wd hw 198 rfl) (wd hw 2 rfl) (by decide) pd31 rfl rfl rfl rfl (by decide) (by decide) rfl rfl rfl (by decide) (by decide) (fun v L' hQ => ?_)
            obtain ⟨rfl, rfl⟩ := hQ
            show Wp K 25 126 [] 346 [.val (.int ty), .val (.int sb), .val (.long fr), .second, .val (.int mode), .val (.int tl), .val (.int t0), .val (.int t1), .val (.int sl), .val (.int s0), .val (.int s1), .val (.int tot), .val (.int el), .val (.int g0), .val (.int g1), .val (.int g2), .val (.int g3), .val (.int g4), .val (.int e0), .val (.int e1), .val (.int e2), .val (.int e3), .val (.int e4), .val (.ref a1), .val (.ref a2), .val (.ref a3), .val (.ref ma), .val (.int (if (strN el e0 e1 e2 e3 e4).map foldV = ([] ++ strN tl t0 t1 0 0 0 ++ [47] ++ strN sl s0 s1 0 0 0).map foldV then 1 else 0)), .unset] [.int (if el.toInt ≤ (3 : Int32).toInt ∨ foldV e3 = foldV g3 then 1 else 0)]
            by_cases c3 : el.toInt ≤ (3 : Int32).toInt ∨ foldV e3 = foldV g3
            · rw [if_pos c3]
              refine wp_ifz C 187 366 349 rfl rfl rfl (by decide) (fun h => absurd h (fun q : (1 : Int32) = 0 => absurd q (by decide))) (fun _ => ?_)
              refine wp_blk C 188 4 (pc' := 356) (ls' := [.val (.int ty), .val (.int sb), .val (.long fr), .second, .val (.int mode), .val (.int tl), .val (.int t0), .val (.int t1), .val (.int sl), .val (.int s0), .val (.int s1), .val (.int tot), .val (.int el), .val (.int g0), .val (.int g1), .val (.int g2), .val (.int g3), .val (.int g4), .val (.int e0), .val (.int e1), .val (.int e2), .val (.int e3), .val (.int e4), .val (.ref a1), .val (.ref a2), .val (.ref a3), .val (.ref ma), .val (.int (if (strN el e0 e1 e2 e3 e4).map foldV = ([] ++ strN tl t0 t1 0 0 0 ++ [47] ++ strN sl s0 s1 0 0 0).map foldV then 1 else 0)), .unset]) (st' := [.int g4, .int e4, .int el, .int 4]) rfl ?_
              refine wp_static C (al := [.int 4, .int el, .int e4, .int g4]) (rest := []) (L1 := []) (W := 0) (cells' := 25) (slots' := 126) 192 359 (rm_same l Z a0 hw 4 el e4 g4) rfl rfl (wd hw 196 rfl) (wd hw 197 rfl) (wd hw 198 rfl) (wd hw 2 rfl) (by decide) pd31 rfl rfl rfl rfl (by decide) (by decide) rfl rfl rfl (by decide) (by decide) (fun v L' hQ => ?_)
              obtain ⟨rfl, rfl⟩ := hQ
              show Wp K 25 126 [] 359 [.val (.int ty), .val (.int sb), .val (.long fr), .second, .val (.int mode), .val (.int tl), .val (.int t0), .val (.int t1), .val (.int sl), .val (.int s0), .val (.int s1), .val (.int tot), .val (.int el), .val (.int g0), .val (.int g1), .val (.int g2), .val (.int g3), .val (.int g4), .val (.int e0), .val (.int e1), .val (.int e2), .val (.int e3), .val (.int e4), .val (.ref a1), .val (.ref a2), .val (.ref a3), .val (.ref ma), .val (.int (if (strN el e0 e1 e2 e3 e4).map foldV = ([] ++ strN tl t0 t1 0 0 0 ++ [47] ++ strN sl s0 s1 0 0 0).map foldV then 1 else 0)), .unset] [.int (if el.toInt ≤ (4 : Int32).toInt ∨ foldV e4 = foldV g4 then 1 else 0)]
              by_cases c4 : el.toInt ≤ (4 : Int32).toInt ∨ foldV e4 = foldV g4
              · rw [if_pos c4]
                refine wp_ifz C 193 366 362 rfl rfl rfl (by decide) (fun h => absurd h (fun q : (1 : Int32) = 0 => absurd q (by decide))) (fun _ => ?_)
                rw [if_pos (law.mpr ⟨h0, c0, c1, c2, c3, c4⟩)]
                refine wp_blk C 194 2 (pc' := 367) (ls' := [.val (.int ty), .val (.int sb), .val (.long fr), .second, .val (.int mode), .val (.int tl), .val (.int t0), .val (.int t1), .val (.int sl), .val (.int s0), .val (.int s1), .val (.int tot), .val (.int el), .val (.int g0), .val (.int g1), .val (.int g2), .val (.int g3), .val (.int g4), .val (.int e0), .val (.int e1), .val (.int e2), .val (.int e3), .val (.int e4), .val (.ref a1), .val (.ref a2), .val (.ref a3), .val (.ref ma), .val (.int 1), .unset]) (st' := [.int 1]) rfl ?_
                refine wp_blk C 197 3 (pc' := 373) (ls' := [.val (.int ty), .val (.int sb), .val (.long fr), .second, .val (.int mode), .val (.int tl), .val (.int t0), .val (.int t1), .val (.int sl), .val (.int s0), .val (.int s1), .val (.int tot), .val (.int el), .val (.int g0), .val (.int g1), .val (.int g2), .val (.int g3), .val (.int g4), .val (.int e0), .val (.int e1), .val (.int e2), .val (.int e3), .val (.int e4), .val (.ref a1), .val (.ref a2), .val (.ref a3), .val (.ref ma), .val (.int 1), .val (.int 1)]) (st' := [.int 1, .int 1]) rfl ?_
                refine wp_icmp C 200 380 376 rfl rfl rfl (by decide) (fun h => absurd h (fun q : (1 : Int32) ≠ 1 => absurd q (by decide))) (fun _ => ?_)
                refine wp_blk C 201 2 (pc' := 381) (ls' := [.val (.int ty), .val (.int sb), .val (.long fr), .second, .val (.int mode), .val (.int tl), .val (.int t0), .val (.int t1), .val (.int sl), .val (.int s0), .val (.int s1), .val (.int tot), .val (.int el), .val (.int g0), .val (.int g1), .val (.int g2), .val (.int g3), .val (.int g4), .val (.int e0), .val (.int e1), .val (.int e2), .val (.int e3), .val (.int e4), .val (.ref a1), .val (.ref a2), .val (.ref a3), .val (.ref ma), .val (.int 1), .val (.int 1)]) (st' := [.int 1]) rfl ?_
                exact wp_retN C (z' := 1) 203 rfl (Or.inl rfl) rfl (by decide) (by decide) (rfl)
              · rw [if_neg c4]
                refine wp_ifz C 193 366 362 rfl rfl rfl (by decide) (fun _ => ?_) (fun h => absurd h (fun q : (0 : Int32) ≠ 0 => absurd q (by decide)))
                rw [if_neg (fun q => c4 (law.mp q).2.2.2.2.2)]
                refine wp_blk C 196 1 (pc' := 367) (ls' := [.val (.int ty), .val (.int sb), .val (.long fr), .second, .val (.int mode), .val (.int tl), .val (.int t0), .val (.int t1), .val (.int sl), .val (.int s0), .val (.int s1), .val (.int tot), .val (.int el), .val (.int g0), .val (.int g1), .val (.int g2), .val (.int g3), .val (.int g4), .val (.int e0), .val (.int e1), .val (.int e2), .val (.int e3), .val (.int e4), .val (.ref a1), .val (.ref a2), .val (.ref a3), .val (.ref ma), .val (.int 0), .unset]) (st' := [.int 0]) rfl ?_
                refine wp_blk C 197 3 (pc' := 373) (ls' := [.val (.int ty), .val (.int sb), .val (.long fr), .second, .val (.int mode), .val (.int tl), .val (.int t0), .val (.int t1), .val (.int sl), .val (.int s0), .val (.int s1), .val (.int tot), .val (.int el), .val (.int g0), .val (.int g1), .val (.int g2), .val (.int g3), .val (.int g4), .val (.int e0), .val (.int e1), .val (.int e2), .val (.int e3), .val (.int e4), .val (.ref a1), .val (.ref a2), .val (.ref a3), .val (.ref ma), .val (.int 0), .val (.int 0)]) (st' := [.int 0, .int 0]) rfl ?_
                refine wp_icmp C 200 380 376 rfl rfl rfl (by decide) (fun h => absurd h (fun q : (0 : Int32) ≠ 0 => absurd q (by decide))) (fun _ => ?_)
                refine wp_blk C 201 2 (pc' := 381) (ls' := [.val (.int ty), .val (.int sb), .val (.long fr), .second, .val (.int mode), .val (.int tl), .val (.int t0), .val (.int t1), .val (.int sl), .val (.int s0), .val (.int s1), .val (.int tot), .val (.int el), .val (.int g0), .val (.int g1), .val (.int g2), .val (.int g3), .val (.int g4), .val (.int e0), .val (.int e1), .val (.int e2), .val (.int e3), .val (.int e4), .val (.ref a1), .val (.ref a2), .val (.ref a3), .val (.ref ma), .val (.int 0), .val (.int 0)]) (st' := [.int 1]) rfl ?_
                exact wp_retN C (z' := 1) 203 rfl (Or.inl rfl) rfl (by decide) (by decide) (rfl)
            · rw [if_neg c3]
              refine wp_ifz C 187 366 349 rfl rfl rfl (by decide) (fun _ => ?_) (fun h => absurd h (fun q : (0 : Int32) ≠ 0 => absurd q (by decide)))
              rw [if_neg (fun q => c3 (law.mp q).2.2.2.2.1)]
              refine wp_blk C 196 1 (pc' := 367) (ls' := [.val (.int ty), .val (.int sb), .val (.long fr), .second, .val (.int mode), .val (.int tl), .val (.int t0), .val (.int t1), .val (.int sl), .val (.int s0), .val (.int s1), .val (.int tot), .val (.int el), .val (.int g0), .val (.int g1), .val (.int g2), .val (.int g3), .val (.int g4), .val (.int e0), .val (.int e1), .val (.int e2), .val (.int e3), .val (.int e4), .val (.ref a1), .val (.ref a2), .val (.ref a3), .val (.ref ma), .val (.int 0), .unset]) (st' := [.int 0]) rfl ?_
              refine wp_blk C 197 3 (pc' := 373) (ls' := [.val (.int ty), .val (.int sb), .val (.long fr), .second, .val (.int mode), .val (.int tl), .val (.int t0), .val (.int t1), .val (.int sl), .val (.int s0), .val (.int s1), .val (.int tot), .val (.int el), .val (.int g0), .val (.int g1), .val (.int g2), .val (.int g3), .val (.int g4), .val (.int e0), .val (.int e1), .val (.int e2), .val (.int e3), .val (.int e4), .val (.ref a1), .val (.ref a2), .val (.ref a3), .val (.ref ma), .val (.int 0), .val (.int 0)]) (st' := [.int 0, .int 0]) rfl ?_
              refine wp_icmp C 200 380 376 rfl rfl rfl (by decide) (fun h => absurd h (fun q : (0 : Int32) ≠ 0 => absurd q (by decide))) (fun _ => ?_)
              refine wp_blk C 201 2 (pc' := 381) (ls' := [.val (.int ty), .val (.int sb), .val (.long fr), .second, .val (.int mode), .val (.int tl), .val (.int t0), .val (.int t1), .val (.int sl), .val (.int s0), .val (.int s1), .val (.int tot), .val (.int el), .val (.int g0), .val (.int g1), .val (.int g2), .val (.int g3), .val (.int g4), .val (.int e0), .val (.int e1), .val (.int e2), .val (.int e3), .val (.int e4), .val (.ref a1), .val (.ref a2), .val (.ref a3), .val (.ref ma), .val (.int 0), .val (.int 0)]) (st' := [.int 1]) rfl ?_
              exact wp_retN C (z' := 1) 203 rfl (Or.inl rfl) rfl (by decide) (by decide) (rfl)
          · rw [if_neg c2]
            refine wp_ifz C 181 366 336 rfl rfl rfl (by decide) (fun _ => ?_) (fun h => absurd h (fun q : (0 : Int32) ≠ 0 => absurd q (by decide)))
            rw [if_neg (fun q => c2 (law.mp q).2.2.2.1)]
            refine wp_blk C 196 1 (pc' := 367) (ls' := [.val (.int ty), .val (.int sb), .val (.long fr), .second, .val (.int mode), .val (.int tl), .val (.int t0), .val (.int t1), .val (.int sl), .val (.int s0), .val (.int s1), .val (.int tot), .val (.int el), .val (.int g0), .val (.int g1), .val (.int g2), .val (.int g3), .val (.int g4), .val (.int e0), .val (.int e1), .val (.int e2), .val (.int e3), .val (.int e4), .val (.ref a1), .val (.ref a2), .val (.ref a3), .val (.ref ma), .val (.int 0), .unset]) (st' := [.int 0]) rfl ?_
            refine wp_blk C 197 3 (pc' := 373) (ls' := [.val (.int ty), .val (.int sb), .val (.long fr), .second, .val (.int mode), .val (.int tl), .val (.int t0), .val (.int t1), .val (.int sl), .val (.int s0), .val (.int s1), .val (.int tot), .val (.int el), .val (.int g0), .val (.int g1), .val (.int g2), .val (.int g3), .val (.int g4), .val (.int e0), .val (.int e1), .val (.int e2), .val (.int e3), .val (.int e4), .val (.ref a1), .val (.ref a2), .val (.ref a3), .val (.ref ma), .val (.int 0), .val (.int 0)]) (st' := [.int 0, .int 0]) rfl ?_
            refine wp_icmp C 200 380 376 rfl rfl rfl (by decide) (fun h => absurd h (fun q : (0 : Int32) ≠ 0 => absurd q (by decide))) (fun _ => ?_)
            refine wp_blk C 201 2 (pc' := 381) (ls' := [.val (.int ty), .val (.int sb), .val (.long fr), .second, .val (.int mode), .val (.int tl), .val (.int t0), .val (.int t1), .val (.int sl), .val (.int s0), .val (.int s1), .val (.int tot), .val (.int el), .val (.int g0), .val (.int g1), .val (.int g2), .val (.int g3), .val (.int g4), .val (.int e0), .val (.int e1), .val (.int e2), .val (.int e3), .val (.int e4), .val (.ref a1), .val (.ref a2), .val (.ref a3), .val (.ref ma), .val (.int 0), .val (.int 0)]) (st' := [.int 1]) rfl ?_
            exact wp_retN C (z' := 1) 203 rfl (Or.inl rfl) rfl (by decide) (by decide) (rfl)
        · rw [if_neg c1]
          refine wp_ifz C 175 366 323 rfl rfl rfl (by decide) (fun _ => ?_) (fun h => absurd h (fun q : (0 : Int32) ≠ 0 => absurd q (by decide)))
          rw [if_neg (fun q => c1 (law.mp q).2.2.1)]
          refine wp_blk C 196 1 (pc' := 367) (ls' := [.val (.int ty), .val (.int sb), .val (.long fr), .second, .val (.int mode), .val (.int tl), .val (.int t0), .val (.int t1), .val (.int sl), .val (.int s0), .val (.int s1), .val (.int tot), .val (.int el), .val (.int g0), .val (.int g1), .val (.int g2), .val (.int g3), .val (.int g4), .val (.int e0), .val (.int e1), .val (.int e2), .val (.int e3), .val (.int e4), .val (.ref a1), .val (.ref a2), .val (.ref a3), .val (.ref ma), .val (.int 0), .unset]) (st' := [.int 0]) rfl ?_
          refine wp_blk C 197 3 (pc' := 373) (ls' := [.val (.int ty), .val (.int sb), .val (.long fr), .second, .val (.int mode), .val (.int tl), .val (.int t0), .val (.int t1), .val (.int sl), .val (.int s0), .val (.int s1), .val (.int tot), .val (.int el), .val (.int g0), .val (.int g1), .val (.int g2), .val (.int g3), .val (.int g4), .val (.int e0), .val (.int e1), .val (.int e2), .val (.int e3), .val (.int e4), .val (.ref a1), .val (.ref a2), .val (.ref a3), .val (.ref ma), .val (.int 0), .val (.int 0)]) (st' := [.int 0, .int 0]) rfl ?_
          refine wp_icmp C 200 380 376 rfl rfl rfl (by decide) (fun h => absurd h (fun q : (0 : Int32) ≠ 0 => absurd q (by decide))) (fun _ => ?_)
          refine wp_blk C 201 2 (pc' := 381) (ls' := [.val (.int ty), .val (.int sb), .val (.long fr), .second, .val (.int mode), .val (.int tl), .val (.int t0), .val (.int t1), .val (.int sl), .val (.int s0), .val (.int s1), .val (.int tot), .val (.int el), .val (.int g0), .val (.int g1), .val (.int g2), .val (.int g3), .val (.int g4), .val (.int e0), .val (.int e1), .val (.int e2), .val (.int e3), .val (.int e4), .val (.ref a1), .val (.ref a2), .val (.ref a3), .val (.ref ma), .val (.int 0), .val (.int 0)]) (st' := [.int 1]) rfl ?_
          exact wp_retN C (z' := 1) 203 rfl (Or.inl rfl) rfl (by decide) (by decide) (rfl)
      · rw [if_neg c0]
        refine wp_ifz C 169 366 310 rfl rfl rfl (by decide) (fun _ => ?_) (fun h => absurd h (fun q : (0 : Int32) ≠ 0 => absurd q (by decide)))
        rw [if_neg (fun q => c0 (law.mp q).2.1)]
        refine wp_blk C 196 1 (pc' := 367) (ls' := [.val (.int ty), .val (.int sb), .val (.long fr), .second, .val (.int mode), .val (.int tl), .val (.int t0), .val (.int t1), .val (.int sl), .val (.int s0), .val (.int s1), .val (.int tot), .val (.int el), .val (.int g0), .val (.int g1), .val (.int g2), .val (.int g3), .val (.int g4), .val (.int e0), .val (.int e1), .val (.int e2), .val (.int e3), .val (.int e4), .val (.ref a1), .val (.ref a2), .val (.ref a3), .val (.ref ma), .val (.int 0), .unset]) (st' := [.int 0]) rfl ?_
        refine wp_blk C 197 3 (pc' := 373) (ls' := [.val (.int ty), .val (.int sb), .val (.long fr), .second, .val (.int mode), .val (.int tl), .val (.int t0), .val (.int t1), .val (.int sl), .val (.int s0), .val (.int s1), .val (.int tot), .val (.int el), .val (.int g0), .val (.int g1), .val (.int g2), .val (.int g3), .val (.int g4), .val (.int e0), .val (.int e1), .val (.int e2), .val (.int e3), .val (.int e4), .val (.ref a1), .val (.ref a2), .val (.ref a3), .val (.ref ma), .val (.int 0), .val (.int 0)]) (st' := [.int 0, .int 0]) rfl ?_
        refine wp_icmp C 200 380 376 rfl rfl rfl (by decide) (fun h => absurd h (fun q : (0 : Int32) ≠ 0 => absurd q (by decide))) (fun _ => ?_)
        refine wp_blk C 201 2 (pc' := 381) (ls' := [.val (.int ty), .val (.int sb), .val (.long fr), .second, .val (.int mode), .val (.int tl), .val (.int t0), .val (.int t1), .val (.int sl), .val (.int s0), .val (.int s1), .val (.int tot), .val (.int el), .val (.int g0), .val (.int g1), .val (.int g2), .val (.int g3), .val (.int g4), .val (.int e0), .val (.int e1), .val (.int e2), .val (.int e3), .val (.int e4), .val (.ref a1), .val (.ref a2), .val (.ref a3), .val (.ref ma), .val (.int 0), .val (.int 0)]) (st' := [.int 1]) rfl ?_
        exact wp_retN C (z' := 1) 203 rfl (Or.inl rfl) rfl (by decide) (by decide) (rfl)
  refine wp_blk C 42 3 (pc' := 67) (ls' := [.val (.int ty), .val (.int sb), .val (.long fr), .second, .val (.int mode), .val (.int tl), .val (.int t0), .val (.int t1), .val (.int sl), .val (.int s0), .val (.int s1), .val (.int tot), .unset, .unset, .unset, .unset, .unset, .unset, .unset, .unset, .unset, .unset, .unset, .unset, .unset, .unset, .unset, .unset, .unset]) (st' := [.int (mode &&& 1)]) rfl ?_
  refine wp_ifz C 45 75 70 rfl rfl rfl (by decide) (fun (hm : ((mode &&& 1) : Int32) = 0) => ?_) (fun (hm : ((mode &&& 1) : Int32) ≠ 0) => ?_)
  · refine wp_blk C 48 6 (pc' := 84) (ls' := [.val (.int ty), .val (.int sb), .val (.long fr), .second, .val (.int mode), .val (.int tl), .val (.int t0), .val (.int t1), .val (.int sl), .val (.int s0), .val (.int s1), .val (.int tot), .unset, .unset, .unset, .unset, .unset, .unset, .unset, .unset, .unset, .unset, .unset, .unset, .unset, .unset, .unset, .unset, .unset]) (st' := [.int 6, .int ((ush mode 1) &&& 7)]) rfl ?_
    refine wp_irem C 54 85 rfl rfl (by decide) ?_
    refine wp_blk C 55 1 (pc' := 87) (ls' := [.val (.int ty), .val (.int sb), .val (.long fr), .second, .val (.int mode), .val (.int tl), .val (.int t0), .val (.int t1), .val (.int sl), .val (.int s0), .val (.int s1), .val (.int tot), .val (.int (((ush mode 1) &&& 7) % 6)), .unset, .unset, .unset, .unset, .unset, .unset, .unset, .unset, .unset, .unset, .unset, .unset, .unset, .unset, .unset, .unset]) (st' := []) rfl ?_
    exact J87 _ (r6 _ (c_and _ 7 (by decide)).1)
  · refine wp_blk C 46 2 (pc' := 85) (ls' := [.val (.int ty), .val (.int sb), .val (.long fr), .second, .val (.int mode), .val (.int tl), .val (.int t0), .val (.int t1), .val (.int sl), .val (.int s0), .val (.int s1), .val (.int tot), .unset, .unset, .unset, .unset, .unset, .unset, .unset, .unset, .unset, .unset, .unset, .unset, .unset, .unset, .unset, .unset, .unset]) (st' := [.int tot]) rfl ?_
    refine wp_blk C 55 1 (pc' := 87) (ls' := [.val (.int ty), .val (.int sb), .val (.long fr), .second, .val (.int mode), .val (.int tl), .val (.int t0), .val (.int t1), .val (.int sl), .val (.int s0), .val (.int s1), .val (.int tot), .val (.int tot), .unset, .unset, .unset, .unset, .unset, .unset, .unset, .unset, .unset, .unset, .unset, .unset, .unset, .unset, .unset, .unset]) (st' := []) rfl ?_
    exact J87 tot (by rw [htot]; exact tot5 Htl Hsl)
set_option maxRecDepth 65536 in
set_option maxHeartbeats 40000000 in
theorem comes_1 {Post : Tables → Env → Array Value → State → Outcome → State → Prop} (hpost : ∀ tb e args s v u, (limb_1_1.after args s (.returned v) u = true ∧ limb_1_2.after args s (.returned v) u = true ∧ True) → ReturnedEndW s (.returned v) u (Jvm.fieldLocs frame_1_writes args s ++ Jvm.arrayLocs frame_1_arrays args s ++ Jvm.staticLocs frame_1_statics s) room_1.cells room_1.slots → Post tb e args s (.returned v) u) :
    ArmFor flags0 classFile x code maxLocals ret World_1 tables_1 room_1 Calls_1 rest_1 Pre_1 Post := by
  intro l hfl _ _ p e ha hc hk s m args below hf hA hF happ hP
  obtain ⟨hcalls, hrest, hpre⟩ := hP
  obtain ⟨-, -, -, hnamed, -, -, -, hat⟩ := (Spec.applies_iff hf).mp happ
  obtain ⟨hg, hn⟩ := and_e (Cond.before_iff.mp (show (Jvm.Cond.and given_1 narrow_1).before args s = true from hpre))
  obtain ⟨g0, g1⟩ := and_e hg
  obtain ⟨g1, g2⟩ := and_e g1
  obtain ⟨g2, g3⟩ := and_e g2
  obtain ⟨g3, g4⟩ := and_e g3
  obtain ⟨w0, w1, w2, w3, rfl⟩ : ∃ w0 w1 w2 w3 : Value, args = #[w0, w1, w2, w3] := by
    have hs : args.size = 4 := by simpa [Cond.value, given_1] using g0
    obtain ⟨L⟩ := args
    match L, hs with
    | [w0, w1, w2, w3], _ => exact ⟨w0, w1, w2, w3, rfl⟩
  have hw := fun d (hd : d ∈ tables_1) => atoms_spec (ws := Jvm.Cond.code x code maxLocals ret :: tables_1) hat d (List.mem_cons_of_mem _ hd)
  obtain ⟨hsets, hown0⟩ := atoms_of _ (rest_1_c_eq ▸ (show rest_1_c.before _ s = true from hrest))
  have n5 := not_v (Cond.before_iff.mp (hsets _ (List.mem_of_getElem? (i := 2) rfl)))
  obtain ⟨cz, ez⟩ := is_v (Cond.before_iff.mp (hsets _ (List.mem_of_getElem? (i := 1) rfl)))
  have S1 : Sta s s.heap "java/lang/String" "COMPACT_STRINGS" "Z" (.int cz) := Sta.start ez (Or.inl (hsets _ (List.mem_of_getElem? (i := 0) rfl)))
  have hcz : cz ≠ 0 := gotF (Cond.eq_ints ez (Term.int_eval (0))) n5
  have hcw := hsets _ (List.mem_of_getElem? (i := 2) rfl)
  obtain ⟨i0, e0⟩ := is_v g1
  obtain rfl : w0 = (.int i0) := Option.some.inj e0
  obtain ⟨i1, e1⟩ := is_v g2
  obtain rfl : w1 = (.int i1) := Option.some.inj e1
  obtain ⟨i2, e2⟩ := isL_v g3
  obtain rfl : w2 = (.long i2) := Option.some.inj e2
  obtain ⟨i3, e3⟩ := is_v g4
  obtain rfl : w3 = (.int i3) := Option.some.inj e3
  have hH : Hp s EL1 s.vm s.heap ([] ++ []) := ⟨⟨Nat.le_refl _, fun _ _ q => q⟩, CHv.start (ew1 hw) hcalls.1 hcw (wd hw 25 rfl) (wd hw 11 rfl), (by simp), (by simp), (by simp)⟩
  obtain ⟨n, o, h1, h2, h3, v, Lc, L', rfl, hG, -, hFr, -, -, hq⟩ := rm_law l s _ hw i0 i1 i2 i3 cz S1 hcz [] p e ha hc hk s m _ below hf ((Spec.applies_iff_loose hf).mp happ).1 ⟨rfl, State.Warmed39.refl s, hH⟩ trivial
  obtain rfl := hG
  refine ⟨n, _, h1, h2, h3, hpost _ _ _ _ _ _ ⟨Cond.after_iff.mpr rfl, Cond.after_iff.mpr (eq_i res_at (Term.int_eval (1)) rfl), trivial⟩ ⟨hq.1, hq.2.1, hq.2.2.1, (hq.2.2.2.sift fun y hy => Or.inr (hFr y hy)).mono (Nat.le_refl _) (Nat.le_refl _)⟩⟩
theorem main_1_1 : Claimed_1_1 := comes_1 fun _ _ _ _ _ _ h hF => ⟨h.1, hF⟩
theorem main_1_2 : Claimed_1_2 := comes_1 fun _ _ _ _ _ _ h hF => ⟨h.2.1, hF⟩
end Jvm.Pilot.@@N@@
namespace Jvm.Pilot.@@N@@
open Jvm Jvm.ClassFile Sem Op Lib Jvm.Free Jvm.Stand Jvm.Pilot.@@N@@.Jvm.D
/-! MADE BY PROGRAM (witnessworld.py) out of the Statement's table words and the real class files: 29 classes; the members and pool entries that the words name. The judged class is class 1, her method 1. -/
namespace start1
open Jvm.ClassFile
def u (s : String) : CpInfo := .utf8 (stringToUtf16 s)
/-- a pool by its gaps: so many unusable entries, then the entry; so many at the end -/
def gap : Nat → List CpInfo → List CpInfo
  | 0, r => r
  | n + 1, r => .unusable :: gap n r
def poolList (es : List (Nat × CpInfo)) (last : Nat) : List CpInfo := es.foldr (fun e r => gap e.1 (e.2 :: r)) (gap last [])
def pool (es : List (Nat × CpInfo)) (last : Nat) : Array CpInfo := ⟨poolList es last⟩
def fileOf (pool : Array CpInfo) (this : Nat) (attrs : Array Attribute := #[]) (ms : Array MethodInfo := #[]) (fl : Nat := 33) (sup : Nat := 0) (ifs : Array Nat := #[]) (fds : Array FieldInfo := #[]) : ClassFile where
  minorVersion := 0
  majorVersion := 65
  constantPool := pool
  accessFlags := fl
  thisClass := this
  superClass := sup
  interfaces := ifs
  fields := fds
  methods := ms
  attributes := attrs
def plain (name : String) (sup : Option ClassId) : Class where
  name := name
  kind := .ordinary
  loader := none
  accessFlags := 33
  super := sup
  interfaces := #[]
  cf := none
  fields := #[]
  methods := #[]
  instanceTypes := #[]
  staticTypes := #[]
  resolved := #[]
  callSites := []
  init := .initialized
  statics := none
  mirror := none

def pool0 : Array CpInfo := pool [(5, u "<init>"), (0, u "()V"), (1, .class_ 10), (1, u "java/lang/Object")] 113

def k0c0 : Code := { maxStack := 0, maxLocals := 1, code := object_method_1_code, exceptionTable := #[], attributes := #[] }
def k0m0 : Method := { name := "<init>", desc := "()V", sig := { parameters := [], returnType := none }, accessFlags := 1, code := some k0c0 }
/-- java/lang/Object -/
def k0 : Class := { plain "java/lang/Object" none with
  accessFlags := 33
  interfaces := #[]
  cf := some (fileOf pool0 8 #[] #[{ accessFlags := 1, nameIndex := 5, descriptorIndex := 6, attributes := #[] }] 33 0 #[] #[])
  fields := #[]
  methods := #[k0m0]
  instanceTypes := #[]
  staticTypes := #[]
  resolved := Array.replicate 124 none
  statics := none }

def pool1 : Array CpInfo := pool [(2, .class_ 4), (1, u "java/lang/Object"), (0, u "<init>"), (0, u "()V"), (0, .methodref 8 9), (0, .class_ 10), (0, .nameAndType 11 12), (0, u "com/example/remitter/remitter/MediaTypeIsPinLaw"), (0, u "tgt"), (0, u "(IIIIII)I"), (0, .methodref 8 14), (0, .nameAndType 15 16), (0, u "ch"), (0, u "(IJII)I"), (0, .methodref 8 18), (0, .nameAndType 19 20), (0, u "str"), (0, u "(IIIIII)Ljava/lang/String;"), (0, .class_ 22), (0, u "com/example/remitter/remitter/MediaType"), (0, .methodref 21 24), (0, .nameAndType 5 25), (0, u "(Ljava/lang/String;Ljava/lang/String;Ljava/util/Map;)V"), (0, .methodref 21 27), (0, .nameAndType 28 29), (0, u "is"), (0, u "(Ljava/lang/String;)Z"), (0, .methodref 8 31), (0, .nameAndType 32 33), (0, u "same"), (0, u "(IIII)Z"), (0, .long 255), (1, .methodref 8 37), (0, .nameAndType 38 39), (0, u "flip"), (0, u "(I)I"), (0, .methodref 8 41), (0, .nameAndType 42 39), (0, u "fold"), (0, .class_ 44), (0, u "java/lang/String"), (0, .methodref 43 46), (0, .nameAndType 5 47), (0, u "([C)V"), (2, u "law"), (0, u "(IIJI)Z")] 3

def k1m0 : Method := { name := "<init>", desc := "()V", sig := { parameters := [], returnType := none }, accessFlags := 1, code := none }
def k1c1 : Code := { maxStack := 6, maxLocals := 29, code := code, exceptionTable := #[], attributes := #[] }
def k1m1 : Method := { name := "law", desc := "(IIJI)Z", sig := { parameters := [.int, .int, .long, .int], returnType := some .boolean }, accessFlags := 9, code := some k1c1 }
def k1c2 : Code := { maxStack := 2, maxLocals := 7, code := method_3_code, exceptionTable := #[], attributes := #[] }
def k1m2 : Method := { name := "tgt", desc := "(IIIIII)I", sig := { parameters := [.int, .int, .int, .int, .int, .int], returnType := some .int }, accessFlags := 10, code := some k1c2 }
def k1c3 : Code := { maxStack := 4, maxLocals := 5, code := method_4_code, exceptionTable := #[], attributes := #[] }
def k1m3 : Method := { name := "ch", desc := "(IJII)I", sig := { parameters := [.int, .long, .int, .int], returnType := some .int }, accessFlags := 10, code := some k1c3 }
def k1c4 : Code := { maxStack := 2, maxLocals := 1, code := method_5_code, exceptionTable := #[], attributes := #[] }
def k1m4 : Method := { name := "flip", desc := "(I)I", sig := { parameters := [.int], returnType := some .int }, accessFlags := 10, code := some k1c4 }
def k1c5 : Code := { maxStack := 2, maxLocals := 1, code := method_6_code, exceptionTable := #[], attributes := #[] }
def k1m5 : Method := { name := "fold", desc := "(I)I", sig := { parameters := [.int], returnType := some .int }, accessFlags := 10, code := some k1c5 }
def k1c6 : Code := { maxStack := 2, maxLocals := 4, code := method_7_code, exceptionTable := #[], attributes := #[] }
def k1m6 : Method := { name := "same", desc := "(IIII)Z", sig := { parameters := [.int, .int, .int, .int], returnType := some .boolean }, accessFlags := 10, code := some k1c6 }
def k1c7 : Code := { maxStack := 6, maxLocals := 6, code := method_8_code, exceptionTable := #[], attributes := #[] }
def k1m7 : Method := { name := "str", desc := "(IIIIII)Ljava/lang/String;", sig := { parameters := [.int, .int, .int, .int, .int, .int], returnType := some (.object "java/lang/String") }, accessFlags := 10, code := some k1c7 }
/-- com/example/remitter/remitter/MediaTypeIsPinLaw -/
def k1 : Class := { plain "com/example/remitter/remitter/MediaTypeIsPinLaw" (some 0) with
  accessFlags := 49
  interfaces := #[]
  cf := some (fileOf pool1 8 #[] #[{ accessFlags := 1, nameIndex := 5, descriptorIndex := 6, attributes := #[] }, { accessFlags := 9, nameIndex := 50, descriptorIndex := 51, attributes := #[] }, { accessFlags := 10, nameIndex := 11, descriptorIndex := 12, attributes := #[] }, { accessFlags := 10, nameIndex := 15, descriptorIndex := 16, attributes := #[] }, { accessFlags := 10, nameIndex := 38, descriptorIndex := 39, attributes := #[] }, { accessFlags := 10, nameIndex := 42, descriptorIndex := 39, attributes := #[] }, { accessFlags := 10, nameIndex := 32, descriptorIndex := 33, attributes := #[] }, { accessFlags := 10, nameIndex := 19, descriptorIndex := 20, attributes := #[] }] 49 2 #[] #[])
  fields := #[]
  methods := #[k1m0, k1m1, k1m2, k1m3, k1m4, k1m5, k1m6, k1m7]
  instanceTypes := #[]
  staticTypes := #[]
  resolved := Array.replicate 55 none
  statics := none }

def pool2 : Array CpInfo := pool [(1, .class_ 2), (0, u "java/io/Serializable"), (0, .class_ 4), (0, u "java/lang/Object")] 2

/-- java/io/Serializable -/
def k2 : Class := { plain "java/io/Serializable" (some 0) with
  accessFlags := 1537
  interfaces := #[]
  cf := some (fileOf pool2 1 #[] #[] 1537 3 #[] #[])
  fields := #[]
  methods := #[]
  instanceTypes := #[]
  staticTypes := #[]
  resolved := Array.replicate 7 none
  statics := none }

def pool3 : Array CpInfo := pool [(1, .class_ 2), (0, u "java/lang/Comparable"), (0, .class_ 4), (0, u "java/lang/Object")] 7

/-- java/lang/Comparable -/
def k3 : Class := { plain "java/lang/Comparable" (some 0) with
  accessFlags := 1537
  interfaces := #[]
  cf := some (fileOf pool3 1 #[] #[] 1537 3 #[] #[])
  fields := #[]
  methods := #[]
  instanceTypes := #[]
  staticTypes := #[]
  resolved := Array.replicate 12 none
  statics := none }

def pool4 : Array CpInfo := pool [(2, .class_ 4), (1, u "java/lang/CharSequence"), (42, .class_ 48), (0, u "java/lang/CharSequence$1CodePointIterator"), (10, .class_ 60), (0, u "java/lang/CharSequence$1CharIterator"), (5, .class_ 67), (0, u "java/lang/Object")] 63

/-- java/lang/CharSequence -/
def k4 : Class := { plain "java/lang/CharSequence" (some 0) with
  accessFlags := 1537
  interfaces := #[]
  cf := some (fileOf pool4 2 #[.nestMembers #[47, 59]] #[] 1537 66 #[] #[])
  fields := #[]
  methods := #[]
  instanceTypes := #[]
  staticTypes := #[]
  resolved := Array.replicate 131 none
  statics := none }

def pool5 : Array CpInfo := pool [(1, .class_ 2), (0, u "java/lang/constant/Constable"), (0, .class_ 4), (0, u "java/lang/Object")] 6

/-- java/lang/constant/Constable -/
def k5 : Class := { plain "java/lang/constant/Constable" (some 0) with
  accessFlags := 1537
  interfaces := #[]
  cf := some (fileOf pool5 1 #[] #[] 1537 3 #[] #[])
  fields := #[]
  methods := #[]
  instanceTypes := #[]
  staticTypes := #[]
  resolved := Array.replicate 11 none
  statics := none }

def pool6 : Array CpInfo := pool [(1, .class_ 2), (0, u "java/lang/constant/ConstantDesc"), (0, .class_ 4), (0, u "java/lang/Object")] 32

/-- java/lang/constant/ConstantDesc -/
def k6 : Class := { plain "java/lang/constant/ConstantDesc" (some 0) with
  accessFlags := 1537
  interfaces := #[]
  cf := some (fileOf pool6 1 #[] #[] 1537 3 #[] #[])
  fields := #[]
  methods := #[]
  instanceTypes := #[]
  staticTypes := #[]
  resolved := Array.replicate 37 none
  statics := none }

def pool7 : Array CpInfo := pool [(1, .methodref 2 3), (0, .class_ 4), (0, .nameAndType 5 6), (0, u "java/lang/Object"), (0, u "<init>"), (0, u "()V"), (0, .string 8), (0, u ""), (0, .fieldref 10 11), (0, .class_ 12), (0, .nameAndType 13 14), (0, u "java/lang/String"), (0, u "value"), (0, u "[B"), (0, .fieldref 10 16), (0, .nameAndType 17 18), (0, u "coder"), (0, u "B"), (2, u "hash"), (0, u "I"), (2, u "hashIsZero"), (0, u "Z"), (0, .methodref 10 28), (0, .nameAndType 5 29), (0, u "([CIILjava/lang/Void;)V"), (8, .fieldref 10 39), (0, .nameAndType 40 26), (0, u "COMPACT_STRINGS"), (1, .class_ 44), (1, u "java/lang/StringUTF16"), (0, u "compress"), (1, .methodref 42 48), (0, .nameAndType 49 50), (0, u "coderFromArrayLen"), (0, u "([BI)B"), (3, .methodref 55 56), (0, .class_ 57), (0, .nameAndType 58 59), (0, u "java/util/Arrays"), (0, u "copyOfRange"), (0, u "([BII)[B"), (47, .class_ 109), (1, u "java/lang/StringLatin1"), (32, u "()Z"), (34, .methodref 42 178), (0, .nameAndType 45 179), (0, u "([CII)[B"), (13, .class_ 195), (1, u "java/lang/System"), (16, .methodref 193 213), (0, .nameAndType 214 215), (0, u "arraycopy"), (0, u "(Ljava/lang/Object;ILjava/lang/Object;II)V"), (118, u "()I"), (0, .methodref 10 336), (0, .nameAndType 17 337), (0, u "()B"), (2, u "()[B"), (148, .methodref 10 490), (0, .nameAndType 5 491), (0, u "(Ljava/lang/AbstractStringBuilder;Ljava/lang/Void;)V"), (1, .nameAndType 494 142), (0, u "isLatin1"), (10, .methodref 10 506), (0, .nameAndType 507 334), (0, u "length"), (24, u "getBytes"), (16, .methodref 550 506), (0, .class_ 551), (0, u "java/lang/AbstractStringBuilder"), (0, .methodref 550 553), (0, .nameAndType 554 340), (0, u "getValue"), (20, .class_ 576), (0, u "java/lang/CharSequence"), (5, .methodref 10 583), (0, .nameAndType 584 585), (0, u "regionMatches"), (0, u "(ZILjava/lang/String;II)Z"), (13, u "CASE_INSENSITIVE_ORDER"), (0, u "Ljava/util/Comparator;"), (12, .methodref 107 614), (0, .nameAndType 615 616), (0, u "regionMatchesCI"), (0, u "([BI[BII)Z"), (204, u "([BIB)V"), (188, u "([C)V"), (36, .methodref 550 493), (53, u "serialPersistentFields"), (0, u "[Ljava/io/ObjectStreamField;"), (0, .class_ 1104), (0, u "java/lang/String$CaseInsensitiveComparator"), (1, .class_ 1107), (0, u "java/io/Serializable"), (0, .class_ 1109), (0, u "java/lang/Comparable"), (0, .class_ 1111), (0, u "java/lang/constant/Constable"), (0, .class_ 1113), (0, u "java/lang/constant/ConstantDesc"), (2, u "serialVersionUID"), (0, u "J"), (3, u "REPL"), (0, u "C"), (2, u "LATIN1"), (1, u "UTF16"), (105, u "(Ljava/lang/StringBuilder;)V"), (22, u "equalsIgnoreCase"), (0, u "(Ljava/lang/String;)Z")] 193

def k7m0 : Method := { name := "<init>", desc := "()V", sig := { parameters := [], returnType := none }, accessFlags := 1, code := none }
def k7c1 : Code := { maxStack := 5, maxLocals := 2, code := jdk_42_method_3_code, exceptionTable := #[], attributes := #[] }
def k7m1 : Method := { name := "<init>", desc := "([C)V", sig := { parameters := [(.array .char)], returnType := none }, accessFlags := 1, code := some k7c1 }
def k7c2 : Code := { maxStack := 3, maxLocals := 2, code := jdk_42_method_53_code, exceptionTable := #[], attributes := #[] }
def k7m2 : Method := { name := "<init>", desc := "(Ljava/lang/StringBuilder;)V", sig := { parameters := [(.object "java/lang/StringBuilder")], returnType := none }, accessFlags := 1, code := some k7c2 }
def k7c3 : Code := { maxStack := 2, maxLocals := 1, code := jdk_42_method_54_code, exceptionTable := #[], attributes := #[] }
def k7m3 : Method := { name := "length", desc := "()I", sig := { parameters := [], returnType := some .int }, accessFlags := 1, code := some k7c3 }
def k7c4 : Code := { maxStack := 6, maxLocals := 2, code := jdk_42_method_70_code, exceptionTable := #[], attributes := #[] }
def k7m4 : Method := { name := "equalsIgnoreCase", desc := "(Ljava/lang/String;)Z", sig := { parameters := [(.object "java/lang/String")], returnType := some .boolean }, accessFlags := 1, code := some k7c4 }
def k7c5 : Code := { maxStack := 6, maxLocals := 9, code := jdk_42_method_74_code, exceptionTable := #[], attributes := #[] }
def k7m5 : Method := { name := "regionMatches", desc := "(ZILjava/lang/String;II)Z", sig := { parameters := [.boolean, .int, (.object "java/lang/String"), .int, .int], returnType := some .boolean }, accessFlags := 1, code := some k7c5 }
def k7c6 : Code := { maxStack := 5, maxLocals := 4, code := jdk_42_method_147_code, exceptionTable := #[], attributes := #[] }
def k7m6 : Method := { name := "getBytes", desc := "([BIB)V", sig := { parameters := [(.array .byte), .int, .byte], returnType := none }, accessFlags := 0, code := some k7c6 }
def k7c7 : Code := { maxStack := 4, maxLocals := 6, code := jdk_42_method_149_code, exceptionTable := #[], attributes := #[] }
def k7m7 : Method := { name := "<init>", desc := "([CIILjava/lang/Void;)V", sig := { parameters := [(.array .char), .int, .int, (.object "java/lang/Void")], returnType := none }, accessFlags := 2, code := some k7c7 }
def k7c8 : Code := { maxStack := 5, maxLocals := 5, code := jdk_42_method_150_code, exceptionTable := #[], attributes := #[] }
def k7m8 : Method := { name := "<init>", desc := "(Ljava/lang/AbstractStringBuilder;Ljava/lang/Void;)V", sig := { parameters := [(.object "java/lang/AbstractStringBuilder"), (.object "java/lang/Void")], returnType := none }, accessFlags := 0, code := some k7c8 }
def k7c9 : Code := { maxStack := 1, maxLocals := 1, code := jdk_42_method_152_code, exceptionTable := #[], attributes := #[] }
def k7m9 : Method := { name := "coder", desc := "()B", sig := { parameters := [], returnType := some .byte }, accessFlags := 0, code := some k7c9 }
/-- java/lang/String -/
def k7 : Class := { plain "java/lang/String" (some 0) with
  accessFlags := 49
  interfaces := #[2, 3, 4, 5, 6]
  cf := some (fileOf pool7 10 #[.nestMembers #[1103]] #[{ accessFlags := 1, nameIndex := 5, descriptorIndex := 6, attributes := #[] }, { accessFlags := 1, nameIndex := 5, descriptorIndex := 1010, attributes := #[] }, { accessFlags := 1, nameIndex := 5, descriptorIndex := 1233, attributes := #[] }, { accessFlags := 1, nameIndex := 507, descriptorIndex := 334, attributes := #[] }, { accessFlags := 1, nameIndex := 1256, descriptorIndex := 1257, attributes := #[] }, { accessFlags := 1, nameIndex := 584, descriptorIndex := 585, attributes := #[] }, { accessFlags := 0, nameIndex := 532, descriptorIndex := 821, attributes := #[] }, { accessFlags := 2, nameIndex := 5, descriptorIndex := 29, attributes := #[] }, { accessFlags := 0, nameIndex := 5, descriptorIndex := 491, attributes := #[] }, { accessFlags := 0, nameIndex := 17, descriptorIndex := 337, attributes := #[] }] 49 2 #[1106, 1108, 575, 1110, 1112] #[{ accessFlags := 18, nameIndex := 13, descriptorIndex := 14, attributes := #[] }, { accessFlags := 18, nameIndex := 17, descriptorIndex := 18, attributes := #[] }, { accessFlags := 2, nameIndex := 21, descriptorIndex := 22, attributes := #[] }, { accessFlags := 2, nameIndex := 25, descriptorIndex := 26, attributes := #[] }, { accessFlags := 26, nameIndex := 1116, descriptorIndex := 1117, attributes := #[] }, { accessFlags := 24, nameIndex := 40, descriptorIndex := 26, attributes := #[] }, { accessFlags := 26, nameIndex := 1101, descriptorIndex := 1102, attributes := #[] }, { accessFlags := 26, nameIndex := 1121, descriptorIndex := 1122, attributes := #[] }, { accessFlags := 25, nameIndex := 599, descriptorIndex := 600, attributes := #[] }, { accessFlags := 24, nameIndex := 1125, descriptorIndex := 18, attributes := #[] }, { accessFlags := 24, nameIndex := 1127, descriptorIndex := 18, attributes := #[] }])
  fields := #[{ name := "value", type := (.array .byte), accessFlags := 18, slot := 0, constantValue := 0 }, { name := "coder", type := .byte, accessFlags := 18, slot := 1, constantValue := 0 }, { name := "hash", type := .int, accessFlags := 2, slot := 2, constantValue := 0 }, { name := "hashIsZero", type := .boolean, accessFlags := 2, slot := 3, constantValue := 0 }, { name := "serialVersionUID", type := .long, accessFlags := 26, slot := 0, constantValue := 0 }, { name := "COMPACT_STRINGS", type := .boolean, accessFlags := 24, slot := 1, constantValue := 0 }, { name := "serialPersistentFields", type := (.array (.object "java/io/ObjectStreamField")), accessFlags := 26, slot := 2, constantValue := 0 }, { name := "REPL", type := .char, accessFlags := 26, slot := 3, constantValue := 0 }, { name := "CASE_INSENSITIVE_ORDER", type := (.object "java/util/Comparator"), accessFlags := 25, slot := 4, constantValue := 0 }, { name := "LATIN1", type := .byte, accessFlags := 24, slot := 5, constantValue := 0 }, { name := "UTF16", type := .byte, accessFlags := 24, slot := 6, constantValue := 0 }]
  methods := #[k7m0, k7m1, k7m2, k7m3, k7m4, k7m5, k7m6, k7m7, k7m8, k7m9]
  instanceTypes := #[(.array .byte), .byte, .int, .boolean]
  staticTypes := #[.long, .boolean, (.array (.object "java/io/ObjectStreamField")), .char, (.object "java/util/Comparator"), .byte, .byte]
  resolved := Array.replicate 1451 none
  statics := some 0 }

def pool8 : Array CpInfo := pool [(1, .methodref 2 3), (0, .class_ 4), (0, .nameAndType 5 6), (0, u "java/lang/Object"), (0, u "<init>"), (0, u "()V"), (0, .class_ 8), (0, u "java/lang/Record")] 13

def k8c0 : Code := { maxStack := 1, maxLocals := 1, code := jdk_30_method_1_code, exceptionTable := #[], attributes := #[] }
def k8m0 : Method := { name := "<init>", desc := "()V", sig := { parameters := [], returnType := none }, accessFlags := 4, code := some k8c0 }
/-- java/lang/Record -/
def k8 : Class := { plain "java/lang/Record" (some 0) with
  accessFlags := 1057
  interfaces := #[]
  cf := some (fileOf pool8 7 #[] #[{ accessFlags := 4, nameIndex := 5, descriptorIndex := 6, attributes := #[] }] 1057 2 #[] #[])
  fields := #[]
  methods := #[k8m0]
  instanceTypes := #[]
  staticTypes := #[]
  resolved := Array.replicate 22 none
  statics := none }

def pool9 : Array CpInfo := pool [(1, .methodref 2 3), (0, .class_ 4), (0, .nameAndType 5 6), (0, u "java/lang/Record"), (0, u "<init>"), (0, u "()V"), (0, .fieldref 8 9), (0, .class_ 10), (0, .nameAndType 11 12), (0, u "com/example/remitter/remitter/MediaType"), (0, u "type"), (0, u "Ljava/lang/String;"), (0, .fieldref 8 14), (0, .nameAndType 15 12), (0, u "subtype"), (0, .fieldref 8 17), (0, .nameAndType 18 19), (0, u "parameters"), (0, u "Ljava/util/Map;"), (10, .class_ 31), (0, u "java/lang/String"), (3, u "()Ljava/lang/String;"), (20, u "(Ljava/lang/String;)Z"), (44, u "(Ljava/lang/String;Ljava/lang/String;Ljava/util/Map;)V"), (4, .class_ 107), (0, u "java/lang/StringBuilder"), (0, .methodref 106 3), (0, .methodref 106 110), (0, .nameAndType 111 112), (0, u "append"), (0, u "(Ljava/lang/String;)Ljava/lang/StringBuilder;"), (0, .string 114), (0, u "/"), (0, .methodref 106 116), (0, .nameAndType 117 35), (0, u "toString"), (0, .methodref 30 119), (0, .nameAndType 120 56), (0, u "equalsIgnoreCase"), (25, u "WEIGHT"), (0, u "Ljava/util/regex/Pattern;"), (13, u "NONE"), (70, u "TOKEN_SYMBOLS"), (1, u "ANY"), (6, u "is")] 30

def k9c0 : Code := { maxStack := 2, maxLocals := 4, code := prog_12_method_1_code, exceptionTable := #[], attributes := #[] }
def k9m0 : Method := { name := "<init>", desc := "(Ljava/lang/String;Ljava/lang/String;Ljava/util/Map;)V", sig := { parameters := [(.object "java/lang/String"), (.object "java/lang/String"), (.object "java/util/Map")], returnType := none }, accessFlags := 0, code := some k9c0 }
def k9c1 : Code := { maxStack := 3, maxLocals := 2, code := prog_12_method_3_code, exceptionTable := #[], attributes := #[] }
def k9m1 : Method := { name := "is", desc := "(Ljava/lang/String;)Z", sig := { parameters := [(.object "java/lang/String")], returnType := some .boolean }, accessFlags := 0, code := some k9c1 }
/-- com/example/remitter/remitter/MediaType -/
def k9 : Class := { plain "com/example/remitter/remitter/MediaType" (some 8) with
  accessFlags := 48
  interfaces := #[]
  cf := some (fileOf pool9 8 #[] #[{ accessFlags := 0, nameIndex := 5, descriptorIndex := 101, attributes := #[] }, { accessFlags := 0, nameIndex := 241, descriptorIndex := 56, attributes := #[] }] 48 2 #[] #[{ accessFlags := 18, nameIndex := 11, descriptorIndex := 12, attributes := #[] }, { accessFlags := 18, nameIndex := 15, descriptorIndex := 12, attributes := #[] }, { accessFlags := 18, nameIndex := 18, descriptorIndex := 19, attributes := #[] }, { accessFlags := 26, nameIndex := 232, descriptorIndex := 12, attributes := #[] }, { accessFlags := 26, nameIndex := 234, descriptorIndex := 12, attributes := #[] }, { accessFlags := 26, nameIndex := 146, descriptorIndex := 147, attributes := #[] }, { accessFlags := 26, nameIndex := 161, descriptorIndex := 147, attributes := #[] }])
  fields := #[{ name := "type", type := (.object "java/lang/String"), accessFlags := 18, slot := 0, constantValue := 0 }, { name := "subtype", type := (.object "java/lang/String"), accessFlags := 18, slot := 1, constantValue := 0 }, { name := "parameters", type := (.object "java/util/Map"), accessFlags := 18, slot := 2, constantValue := 0 }, { name := "TOKEN_SYMBOLS", type := (.object "java/lang/String"), accessFlags := 26, slot := 0, constantValue := 0 }, { name := "ANY", type := (.object "java/lang/String"), accessFlags := 26, slot := 1, constantValue := 0 }, { name := "WEIGHT", type := (.object "java/util/regex/Pattern"), accessFlags := 26, slot := 2, constantValue := 0 }, { name := "NONE", type := (.object "java/util/regex/Pattern"), accessFlags := 26, slot := 3, constantValue := 0 }]
  methods := #[k9m0, k9m1]
  instanceTypes := #[(.object "java/lang/String"), (.object "java/lang/String"), (.object "java/util/Map")]
  staticTypes := #[(.object "java/lang/String"), (.object "java/lang/String"), (.object "java/util/regex/Pattern"), (.object "java/util/regex/Pattern")]
  resolved := Array.replicate 272 none
  statics := none }

def pool10 : Array CpInfo := pool [(1, .class_ 2), (0, u "java/lang/Appendable"), (0, .class_ 4), (0, u "java/lang/Object")] 9

/-- java/lang/Appendable -/
def k10 : Class := { plain "java/lang/Appendable" (some 0) with
  accessFlags := 1537
  interfaces := #[]
  cf := some (fileOf pool10 1 #[] #[] 1537 3 #[] #[])
  fields := #[]
  methods := #[]
  instanceTypes := #[]
  staticTypes := #[]
  resolved := Array.replicate 14 none
  statics := none }

def pool11 : Array CpInfo := pool [(1, .class_ 2), (0, u "java/lang/String"), (0, .methodref 4 5), (0, .class_ 6), (0, .nameAndType 7 8), (0, u "java/lang/Object"), (0, u "<init>"), (0, u "()V"), (1, .class_ 12), (1, u "java/lang/AbstractStringBuilder"), (0, u "EMPTYVALUE"), (0, u "[B"), (0, .fieldref 10 16), (0, .nameAndType 17 14), (0, u "value"), (0, .fieldref 1 19), (0, .nameAndType 20 21), (0, u "COMPACT_STRINGS"), (0, u "Z"), (0, .fieldref 10 23), (0, .nameAndType 24 25), (0, u "coder"), (0, u "B"), (6, .methodref 1 33), (0, .nameAndType 34 35), (0, u "length"), (0, u "()I"), (4, .methodref 1 41), (0, .nameAndType 24 42), (0, u "()B"), (2, u "append"), (0, u "(Ljava/lang/String;)Ljava/lang/AbstractStringBuilder;"), (1, .class_ 49), (0, u "java/lang/CharSequence"), (19, u "(Ljava/lang/String;)V"), (5, u "maybeLatin1"), (3, .fieldref 10 80), (0, .nameAndType 81 82), (0, u "count"), (0, u "I"), (2, u "isLatin1"), (0, u "()Z"), (13, .methodref 10 101), (0, .nameAndType 102 103), (0, u "ensureCapacityInternal"), (0, u "(I)V"), (104, .methodref 10 209), (0, .nameAndType 210 211), (0, u "putStringAt"), (0, u "(ILjava/lang/String;)V"), (5, u "inflateIfNeededFor"), (2, .nameAndType 221 222), (0, u "getBytes"), (0, u "([BIB)V"), (174, .methodref 10 398), (0, .nameAndType 217 69), (0, .methodref 1 220), (3, u "()[B"), (40, .class_ 445), (0, u "java/lang/Appendable"), (106, u "getValue")] 56

def k11m0 : Method := { name := "<init>", desc := "()V", sig := { parameters := [], returnType := none }, accessFlags := 0, code := none }
def k11c1 : Code := { maxStack := 2, maxLocals := 2, code := jdk_68_method_2_code, exceptionTable := #[], attributes := #[] }
def k11m1 : Method := { name := "<init>", desc := "(I)V", sig := { parameters := [.int], returnType := none }, accessFlags := 0, code := some k11c1 }
def k11c2 : Code := { maxStack := 1, maxLocals := 1, code := jdk_68_method_6_code, exceptionTable := #[], attributes := #[] }
def k11m2 : Method := { name := "length", desc := "()I", sig := { parameters := [], returnType := some .int }, accessFlags := 1, code := some k11c2 }
def k11c3 : Code := { maxStack := 4, maxLocals := 3, code := jdk_68_method_9_code, exceptionTable := #[], attributes := #[] }
def k11m3 : Method := { name := "ensureCapacityInternal", desc := "(I)V", sig := { parameters := [.int], returnType := none }, accessFlags := 2, code := some k11c3 }
def k11c4 : Code := { maxStack := 3, maxLocals := 3, code := jdk_68_method_22_code, exceptionTable := #[], attributes := #[] }
def k11m4 : Method := { name := "append", desc := "(Ljava/lang/String;)Ljava/lang/AbstractStringBuilder;", sig := { parameters := [(.object "java/lang/String")], returnType := some (.object "java/lang/AbstractStringBuilder") }, accessFlags := 1, code := some k11c4 }
def k11c5 : Code := { maxStack := 1, maxLocals := 1, code := jdk_68_method_64_code, exceptionTable := #[], attributes := #[] }
def k11m5 : Method := { name := "getValue", desc := "()[B", sig := { parameters := [], returnType := some (.array .byte) }, accessFlags := 16, code := some k11c5 }
def k11c6 : Code := { maxStack := 1, maxLocals := 1, code := jdk_68_method_68_code, exceptionTable := #[], attributes := #[] }
def k11m6 : Method := { name := "isLatin1", desc := "()Z", sig := { parameters := [], returnType := some .boolean }, accessFlags := 16, code := some k11c6 }
def k11c7 : Code := { maxStack := 2, maxLocals := 2, code := jdk_68_method_71_code, exceptionTable := #[], attributes := #[] }
def k11m7 : Method := { name := "inflateIfNeededFor", desc := "(Ljava/lang/String;)V", sig := { parameters := [(.object "java/lang/String")], returnType := none }, accessFlags := 2, code := some k11c7 }
def k11c8 : Code := { maxStack := 4, maxLocals := 3, code := jdk_68_method_73_code, exceptionTable := #[], attributes := #[] }
def k11m8 : Method := { name := "putStringAt", desc := "(ILjava/lang/String;)V", sig := { parameters := [.int, (.object "java/lang/String")], returnType := none }, accessFlags := 2, code := some k11c8 }
/-- java/lang/AbstractStringBuilder -/
def k11 : Class := { plain "java/lang/AbstractStringBuilder" (some 0) with
  accessFlags := 1056
  interfaces := #[10, 4]
  cf := some (fileOf pool11 10 #[] #[{ accessFlags := 0, nameIndex := 7, descriptorIndex := 8, attributes := #[] }, { accessFlags := 0, nameIndex := 7, descriptorIndex := 103, attributes := #[] }, { accessFlags := 1, nameIndex := 34, descriptorIndex := 35, attributes := #[] }, { accessFlags := 2, nameIndex := 102, descriptorIndex := 103, attributes := #[] }, { accessFlags := 1, nameIndex := 45, descriptorIndex := 46, attributes := #[] }, { accessFlags := 16, nameIndex := 552, descriptorIndex := 403, attributes := #[] }, { accessFlags := 16, nameIndex := 85, descriptorIndex := 86, attributes := #[] }, { accessFlags := 2, nameIndex := 217, descriptorIndex := 69, attributes := #[] }, { accessFlags := 2, nameIndex := 210, descriptorIndex := 211, attributes := #[] }] 1056 4 #[444, 48] #[{ accessFlags := 0, nameIndex := 17, descriptorIndex := 14, attributes := #[] }, { accessFlags := 0, nameIndex := 24, descriptorIndex := 25, attributes := #[] }, { accessFlags := 0, nameIndex := 75, descriptorIndex := 21, attributes := #[] }, { accessFlags := 0, nameIndex := 81, descriptorIndex := 82, attributes := #[] }, { accessFlags := 26, nameIndex := 13, descriptorIndex := 14, attributes := #[] }])
  fields := #[{ name := "value", type := (.array .byte), accessFlags := 0, slot := 0, constantValue := 0 }, { name := "coder", type := .byte, accessFlags := 0, slot := 1, constantValue := 0 }, { name := "maybeLatin1", type := .boolean, accessFlags := 0, slot := 2, constantValue := 0 }, { name := "count", type := .int, accessFlags := 0, slot := 3, constantValue := 0 }, { name := "EMPTYVALUE", type := (.array .byte), accessFlags := 26, slot := 0, constantValue := 0 }]
  methods := #[k11m0, k11m1, k11m2, k11m3, k11m4, k11m5, k11m6, k11m7, k11m8]
  instanceTypes := #[(.array .byte), .byte, .boolean, .int]
  staticTypes := #[(.array .byte)]
  resolved := Array.replicate 609 none
  statics := none }

def pool12 : Array CpInfo := pool [(1, .methodref 2 3), (0, .class_ 4), (0, .nameAndType 5 6), (0, u "java/lang/AbstractStringBuilder"), (0, u "<init>"), (0, u "(I)V"), (11, .class_ 20), (1, u "java/lang/String"), (3, .class_ 26), (1, u "java/lang/StringBuilder"), (0, u "append"), (0, u "(Ljava/lang/String;)Ljava/lang/StringBuilder;"), (0, .methodref 2 30), (0, .nameAndType 27 31), (0, u "(Ljava/lang/String;)Ljava/lang/AbstractStringBuilder;"), (105, .methodref 18 138), (0, .nameAndType 5 139), (0, u "(Ljava/lang/StringBuilder;)V"), (5, u "()V"), (10, u "()I"), (186, .methodref 2 344), (0, .nameAndType 345 156), (0, u "length"), (3, .class_ 350), (0, u "java/lang/Appendable"), (0, .class_ 352), (0, u "java/io/Serializable"), (0, .class_ 354), (0, u "java/lang/Comparable"), (0, .class_ 356), (0, u "java/lang/CharSequence"), (0, u "serialVersionUID"), (0, u "J"), (40, u "toString"), (0, u "()Ljava/lang/String;")] 21

def k12c0 : Code := { maxStack := 2, maxLocals := 1, code := jdk_67_method_1_code, exceptionTable := #[], attributes := #[] }
def k12m0 : Method := { name := "<init>", desc := "()V", sig := { parameters := [], returnType := none }, accessFlags := 1, code := some k12c0 }
def k12c1 : Code := { maxStack := 2, maxLocals := 2, code := jdk_67_method_7_code, exceptionTable := #[], attributes := #[] }
def k12m1 : Method := { name := "append", desc := "(Ljava/lang/String;)Ljava/lang/StringBuilder;", sig := { parameters := [(.object "java/lang/String")], returnType := some (.object "java/lang/StringBuilder") }, accessFlags := 1, code := some k12c1 }
def k12c2 : Code := { maxStack := 3, maxLocals := 1, code := jdk_67_method_42_code, exceptionTable := #[], attributes := #[] }
def k12m2 : Method := { name := "toString", desc := "()Ljava/lang/String;", sig := { parameters := [], returnType := some (.object "java/lang/String") }, accessFlags := 1, code := some k12c2 }
def k12c3 : Code := { maxStack := 1, maxLocals := 1, code := jdk_67_method_93_code, exceptionTable := #[], attributes := #[] }
def k12m3 : Method := { name := "length", desc := "()I", sig := { parameters := [], returnType := some .int }, accessFlags := 4161, code := some k12c3 }
/-- java/lang/StringBuilder -/
def k12 : Class := { plain "java/lang/StringBuilder" (some 11) with
  accessFlags := 49
  interfaces := #[10, 2, 3, 4]
  cf := some (fileOf pool12 24 #[] #[{ accessFlags := 1, nameIndex := 5, descriptorIndex := 145, attributes := #[] }, { accessFlags := 1, nameIndex := 27, descriptorIndex := 28, attributes := #[] }, { accessFlags := 1, nameIndex := 399, descriptorIndex := 400, attributes := #[] }, { accessFlags := 4161, nameIndex := 345, descriptorIndex := 156, attributes := #[] }] 49 2 #[349, 351, 353, 355] #[{ accessFlags := 24, nameIndex := 357, descriptorIndex := 358, attributes := #[] }])
  fields := #[{ name := "serialVersionUID", type := .long, accessFlags := 24, slot := 0, constantValue := 0 }]
  methods := #[k12m0, k12m1, k12m2, k12m3]
  instanceTypes := #[(.array .byte), .byte, .boolean, .int]
  staticTypes := #[.long]
  resolved := Array.replicate 422 none
  statics := none }

def pool13 : Array CpInfo := pool [(2, .class_ 4), (1, u "java/lang/Object"), (0, u "<init>"), (0, u "()V"), (1, .class_ 10), (1, u "java/lang/System"), (0, u "allowSecurityManager"), (0, u "I"), (16, u "cons"), (0, u "Ljava/io/Console;"), (77, .class_ 110), (1, u "java/lang/System$CallersHolder"), (43, u "initialErrStream"), (0, u "Ljava/io/PrintStream;"), (19, u "security"), (0, u "Ljava/lang/SecurityManager;"), (31, .class_ 209), (0, u "java/lang/System$1"), (7, u "props"), (0, u "Ljava/util/Properties;"), (2, u "lineSeparator"), (0, u "Ljava/lang/String;"), (96, .class_ 321), (1, u "java/lang/System$LoggerFinder"), (5, .class_ 328), (0, u "java/lang/System$Logger"), (67, u "err"), (2, u "out"), (91, u "notSupportedJnuEncoding"), (15, u "in"), (17, u "initialIn"), (0, u "Ljava/io/InputStream;"), (35, u "bootLayer"), (0, u "Ljava/lang/ModuleLayer;"), (99, .class_ 664), (0, u "java/lang/System$2"), (9, u "NEVER"), (2, u "MAYBE"), (49, u "arraycopy"), (0, u "(Ljava/lang/Object;ILjava/lang/Object;II)V"), (72, .class_ 802), (0, u "java/lang/System$Logger$Level")] 31

def k13m0 : Method := { name := "<init>", desc := "()V", sig := { parameters := [], returnType := none }, accessFlags := 2, code := none }
def k13m1 : Method := { name := "arraycopy", desc := "(Ljava/lang/Object;ILjava/lang/Object;II)V", sig := { parameters := [(.object "java/lang/Object"), .int, (.object "java/lang/Object"), .int, .int], returnType := none }, accessFlags := 265, code := none }
/-- java/lang/System -/
def k13 : Class := { plain "java/lang/System" (some 0) with
  accessFlags := 49
  interfaces := #[]
  cf := some (fileOf pool13 8 #[.nestMembers #[319, 327, 801, 108, 663, 208]] #[{ accessFlags := 2, nameIndex := 5, descriptorIndex := 6, attributes := #[] }, { accessFlags := 265, nameIndex := 727, descriptorIndex := 728, attributes := #[] }] 49 2 #[] #[{ accessFlags := 25, nameIndex := 507, descriptorIndex := 526, attributes := #[] }, { accessFlags := 25, nameIndex := 399, descriptorIndex := 155, attributes := #[] }, { accessFlags := 25, nameIndex := 396, descriptorIndex := 155, attributes := #[] }, { accessFlags := 10, nameIndex := 525, descriptorIndex := 526, attributes := #[] }, { accessFlags := 26, nameIndex := 674, descriptorIndex := 12, attributes := #[] }, { accessFlags := 26, nameIndex := 677, descriptorIndex := 12, attributes := #[] }, { accessFlags := 10, nameIndex := 11, descriptorIndex := 12, attributes := #[] }, { accessFlags := 74, nameIndex := 175, descriptorIndex := 176, attributes := #[] }, { accessFlags := 10, nameIndex := 491, descriptorIndex := 222, attributes := #[] }, { accessFlags := 74, nameIndex := 29, descriptorIndex := 30, attributes := #[] }, { accessFlags := 74, nameIndex := 154, descriptorIndex := 155, attributes := #[] }, { accessFlags := 10, nameIndex := 217, descriptorIndex := 218, attributes := #[] }, { accessFlags := 10, nameIndex := 221, descriptorIndex := 222, attributes := #[] }, { accessFlags := 8, nameIndex := 562, descriptorIndex := 563, attributes := #[] }])
  fields := #[{ name := "in", type := (.object "java/io/InputStream"), accessFlags := 25, slot := 0, constantValue := 0 }, { name := "out", type := (.object "java/io/PrintStream"), accessFlags := 25, slot := 1, constantValue := 0 }, { name := "err", type := (.object "java/io/PrintStream"), accessFlags := 25, slot := 2, constantValue := 0 }, { name := "initialIn", type := (.object "java/io/InputStream"), accessFlags := 10, slot := 3, constantValue := 0 }, { name := "NEVER", type := .int, accessFlags := 26, slot := 4, constantValue := 0 }, { name := "MAYBE", type := .int, accessFlags := 26, slot := 5, constantValue := 0 }, { name := "allowSecurityManager", type := .int, accessFlags := 10, slot := 6, constantValue := 0 }, { name := "security", type := (.object "java/lang/SecurityManager"), accessFlags := 74, slot := 7, constantValue := 0 }, { name := "notSupportedJnuEncoding", type := (.object "java/lang/String"), accessFlags := 10, slot := 8, constantValue := 0 }, { name := "cons", type := (.object "java/io/Console"), accessFlags := 74, slot := 9, constantValue := 0 }, { name := "initialErrStream", type := (.object "java/io/PrintStream"), accessFlags := 74, slot := 10, constantValue := 0 }, { name := "props", type := (.object "java/util/Properties"), accessFlags := 10, slot := 11, constantValue := 0 }, { name := "lineSeparator", type := (.object "java/lang/String"), accessFlags := 10, slot := 12, constantValue := 0 }, { name := "bootLayer", type := (.object "java/lang/ModuleLayer"), accessFlags := 8, slot := 13, constantValue := 0 }]
  methods := #[k13m0, k13m1]
  instanceTypes := #[]
  staticTypes := #[(.object "java/io/InputStream"), (.object "java/io/PrintStream"), (.object "java/io/PrintStream"), (.object "java/io/InputStream"), .int, .int, .int, (.object "java/lang/SecurityManager"), (.object "java/lang/String"), (.object "java/io/Console"), (.object "java/io/PrintStream"), (.object "java/util/Properties"), (.object "java/lang/String"), (.object "java/lang/ModuleLayer")]
  resolved := Array.replicate 834 none
  statics := none }

def pool14 : Array CpInfo := pool [(2, .class_ 4), (1, u "java/lang/Object"), (0, u "<init>"), (0, u "()V"), (7, .class_ 16), (1, u "java/util/Arrays"), (57, .class_ 76), (1, u "java/util/Arrays$NaturalOrder"), (36, .class_ 115), (1, u "java/util/Arrays$LegacyMergeSort"), (1, u "Z"), (21, u "copyOfRange"), (10, .methodref 151 152), (0, .class_ 153), (0, .nameAndType 154 155), (0, u "java/lang/System"), (0, u "arraycopy"), (0, u "(Ljava/lang/Object;ILjava/lang/Object;II)V"), (148, .methodref 305 306), (0, .class_ 307), (0, .nameAndType 308 309), (0, u "java/lang/Math"), (0, u "min"), (0, u "(II)I"), (29, .methodref 14 340), (0, .nameAndType 341 342), (0, u "copyOfRangeByte"), (0, u "([BII)[B"), (0, .methodref 14 344), (0, .nameAndType 345 346), (0, u "checkLength"), (0, u "(II)V"), (28, .class_ 376), (0, u "java/util/Arrays$ArrayList"), (68, u "$assertionsDisabled"), (269, u "MIN_ARRAY_SORT_GRAN"), (0, u "I"), (2, u "INSERTIONSORT_THRESHOLD"), (255, .class_ 976), (0, u "java/util/Arrays$ArrayItr")] 52

def k14m0 : Method := { name := "<init>", desc := "()V", sig := { parameters := [], returnType := none }, accessFlags := 2, code := none }
def k14c1 : Code := { maxStack := 4, maxLocals := 2, code := jdk_65_method_131_code, exceptionTable := #[], attributes := #[] }
def k14m1 : Method := { name := "checkLength", desc := "(II)V", sig := { parameters := [.int, .int], returnType := none }, accessFlags := 10, code := some k14c1 }
def k14c2 : Code := { maxStack := 3, maxLocals := 3, code := jdk_65_method_132_code, exceptionTable := #[], attributes := #[] }
def k14m2 : Method := { name := "copyOfRange", desc := "([BII)[B", sig := { parameters := [(.array .byte), .int, .int], returnType := some (.array .byte) }, accessFlags := 9, code := some k14c2 }
def k14c3 : Code := { maxStack := 6, maxLocals := 5, code := jdk_65_method_133_code, exceptionTable := #[], attributes := #[] }
def k14m3 : Method := { name := "copyOfRangeByte", desc := "([BII)[B", sig := { parameters := [(.array .byte), .int, .int], returnType := some (.array .byte) }, accessFlags := 10, code := some k14c3 }
/-- java/util/Arrays -/
def k14 : Class := { plain "java/util/Arrays" (some 0) with
  accessFlags := 49
  interfaces := #[]
  cf := some (fileOf pool14 14 #[.nestMembers #[975, 375, 113, 74]] #[{ accessFlags := 2, nameIndex := 5, descriptorIndex := 6, attributes := #[] }, { accessFlags := 10, nameIndex := 345, descriptorIndex := 346, attributes := #[] }, { accessFlags := 9, nameIndex := 139, descriptorIndex := 342, attributes := #[] }, { accessFlags := 10, nameIndex := 341, descriptorIndex := 342, attributes := #[] }] 49 2 #[] #[{ accessFlags := 26, nameIndex := 715, descriptorIndex := 716, attributes := #[] }, { accessFlags := 26, nameIndex := 719, descriptorIndex := 716, attributes := #[] }, { accessFlags := 4120, nameIndex := 445, descriptorIndex := 117, attributes := #[] }])
  fields := #[{ name := "MIN_ARRAY_SORT_GRAN", type := .int, accessFlags := 26, slot := 0, constantValue := 0 }, { name := "INSERTIONSORT_THRESHOLD", type := .int, accessFlags := 26, slot := 1, constantValue := 0 }, { name := "$assertionsDisabled", type := .boolean, accessFlags := 4120, slot := 2, constantValue := 0 }]
  methods := #[k14m0, k14m1, k14m2, k14m3]
  instanceTypes := #[]
  staticTypes := #[.int, .int, .boolean]
  resolved := Array.replicate 1029 none
  statics := none }

def pool15 : Array CpInfo := pool [(1, .class_ 2), (0, u "java/lang/Math"), (1, .class_ 6), (1, u "java/lang/Object"), (0, u "<init>"), (0, u "()V"), (89, .class_ 100), (1, u "java/lang/Math$RandomNumberGeneratorHolder"), (71, u "negativeZeroFloatBits"), (0, u "J"), (2, u "negativeZeroDoubleBits"), (24, u "min"), (43, u "$assertionsDisabled"), (0, u "Z"), (88, u "(II)I"), (2, u "twoToTheDoubleScaleDown"), (0, u "D"), (4, u "twoToTheDoubleScaleUp"), (9, u "E"), (3, u "PI"), (2, u "TAU"), (2, u "DEGREES_TO_RADIANS"), (0, u "RADIANS_TO_DEGREES")] 94

def k15m0 : Method := { name := "<init>", desc := "()V", sig := { parameters := [], returnType := none }, accessFlags := 2, code := none }
def k15c1 : Code := { maxStack := 2, maxLocals := 2, code := jdk_29_method_69_code, exceptionTable := #[], attributes := #[] }
def k15m1 : Method := { name := "min", desc := "(II)I", sig := { parameters := [.int, .int], returnType := some .int }, accessFlags := 9, code := some k15c1 }
/-- java/lang/Math -/
def k15 : Class := { plain "java/lang/Math" (some 0) with
  accessFlags := 49
  interfaces := #[]
  cf := some (fileOf pool15 1 #[.nestMembers #[98]] #[{ accessFlags := 2, nameIndex := 7, descriptorIndex := 8, attributes := #[] }, { accessFlags := 9, nameIndex := 201, descriptorIndex := 335, attributes := #[] }] 49 4 #[] #[{ accessFlags := 25, nameIndex := 354, descriptorIndex := 339, attributes := #[] }, { accessFlags := 25, nameIndex := 358, descriptorIndex := 339, attributes := #[] }, { accessFlags := 25, nameIndex := 361, descriptorIndex := 339, attributes := #[] }, { accessFlags := 26, nameIndex := 364, descriptorIndex := 339, attributes := #[] }, { accessFlags := 26, nameIndex := 365, descriptorIndex := 339, attributes := #[] }, { accessFlags := 26, nameIndex := 172, descriptorIndex := 173, attributes := #[] }, { accessFlags := 26, nameIndex := 176, descriptorIndex := 173, attributes := #[] }, { accessFlags := 8, nameIndex := 344, descriptorIndex := 339, attributes := #[] }, { accessFlags := 8, nameIndex := 338, descriptorIndex := 339, attributes := #[] }, { accessFlags := 4120, nameIndex := 245, descriptorIndex := 246, attributes := #[] }])
  fields := #[{ name := "E", type := .double, accessFlags := 25, slot := 0, constantValue := 0 }, { name := "PI", type := .double, accessFlags := 25, slot := 1, constantValue := 0 }, { name := "TAU", type := .double, accessFlags := 25, slot := 2, constantValue := 0 }, { name := "DEGREES_TO_RADIANS", type := .double, accessFlags := 26, slot := 3, constantValue := 0 }, { name := "RADIANS_TO_DEGREES", type := .double, accessFlags := 26, slot := 4, constantValue := 0 }, { name := "negativeZeroFloatBits", type := .long, accessFlags := 26, slot := 5, constantValue := 0 }, { name := "negativeZeroDoubleBits", type := .long, accessFlags := 26, slot := 6, constantValue := 0 }, { name := "twoToTheDoubleScaleUp", type := .double, accessFlags := 8, slot := 7, constantValue := 0 }, { name := "twoToTheDoubleScaleDown", type := .double, accessFlags := 8, slot := 8, constantValue := 0 }, { name := "$assertionsDisabled", type := .boolean, accessFlags := 4120, slot := 9, constantValue := 0 }]
  methods := #[k15m0, k15m1]
  instanceTypes := #[]
  staticTypes := #[.double, .double, .double, .double, .double, .long, .long, .double, .double, .boolean]
  resolved := Array.replicate 460 none
  statics := none }

def pool16 : Array CpInfo := pool [(6, .class_ 8), (1, u "java/lang/Object"), (0, u "<init>"), (0, u "()V"), (1, .class_ 14), (1, u "java/lang/StringUTF16"), (31, u "$assertionsDisabled"), (0, u "Z"), (13, u "HI_BYTE_SHIFT"), (0, u "I"), (2, u "LO_BYTE_SHIFT"), (49, .methodref 12 116), (0, .nameAndType 117 118), (0, u "compress"), (0, u "([CI[BII)I"), (3, u "([CII)[B"), (138, u "coderFromArrayLen"), (0, u "([BI)B"), (106, .class_ 371), (1, u "java/lang/StringUTF16$LinesSpliterator"), (58, u "MAX_LENGTH"), (196, .class_ 628), (0, u "java/lang/StringUTF16$CodePointsSpliterator"), (0, .class_ 630), (0, u "java/lang/StringUTF16$CharsSpliterator")] 4

def k16m0 : Method := { name := "<init>", desc := "()V", sig := { parameters := [], returnType := none }, accessFlags := 0, code := none }
def k16c1 : Code := { maxStack := 2, maxLocals := 2, code := jdk_52_method_15_code, exceptionTable := #[], attributes := #[] }
def k16m1 : Method := { name := "coderFromArrayLen", desc := "([BI)B", sig := { parameters := [(.array .byte), .int], returnType := some .byte }, accessFlags := 8, code := some k16c1 }
def k16c2 : Code := { maxStack := 5, maxLocals := 6, code := jdk_52_method_16_code, exceptionTable := #[], attributes := #[] }
def k16m2 : Method := { name := "compress", desc := "([CII)[B", sig := { parameters := [(.array .char), .int, .int], returnType := some (.array .byte) }, accessFlags := 9, code := some k16c2 }
def k16c3 : Code := { maxStack := 3, maxLocals := 7, code := jdk_52_method_21_code, exceptionTable := #[], attributes := #[] }
def k16m3 : Method := { name := "compress", desc := "([CI[BII)I", sig := { parameters := [(.array .char), .int, (.array .byte), .int, .int], returnType := some .int }, accessFlags := 9, code := some k16c3 }
/-- java/lang/StringUTF16 -/
def k16 : Class := { plain "java/lang/StringUTF16" (some 0) with
  accessFlags := 48
  interfaces := #[]
  cf := some (fileOf pool16 12 #[.nestMembers #[627, 629, 369]] #[{ accessFlags := 0, nameIndex := 9, descriptorIndex := 10, attributes := #[] }, { accessFlags := 8, nameIndex := 261, descriptorIndex := 262, attributes := #[] }, { accessFlags := 9, nameIndex := 117, descriptorIndex := 122, attributes := #[] }, { accessFlags := 9, nameIndex := 117, descriptorIndex := 118, attributes := #[] }] 48 6 #[] #[{ accessFlags := 26, nameIndex := 61, descriptorIndex := 62, attributes := #[] }, { accessFlags := 26, nameIndex := 65, descriptorIndex := 62, attributes := #[] }, { accessFlags := 24, nameIndex := 430, descriptorIndex := 62, attributes := #[] }, { accessFlags := 4120, nameIndex := 46, descriptorIndex := 47, attributes := #[] }])
  fields := #[{ name := "HI_BYTE_SHIFT", type := .int, accessFlags := 26, slot := 0, constantValue := 0 }, { name := "LO_BYTE_SHIFT", type := .int, accessFlags := 26, slot := 1, constantValue := 0 }, { name := "MAX_LENGTH", type := .int, accessFlags := 24, slot := 2, constantValue := 0 }, { name := "$assertionsDisabled", type := .boolean, accessFlags := 4120, slot := 3, constantValue := 0 }]
  methods := #[k16m0, k16m1, k16m2, k16m3]
  instanceTypes := #[]
  staticTypes := #[.int, .int, .int, .boolean]
  resolved := Array.replicate 635 none
  statics := none }

def pool17 : Array CpInfo := pool [(4, .class_ 6), (1, u "java/lang/Object"), (0, u "<init>"), (0, u "()V"), (5, .class_ 16), (1, u "java/lang/StringLatin1"), (50, .class_ 69), (1, u "java/lang/CharacterDataLatin1"), (51, u "$assertionsDisabled"), (0, u "Z"), (30, .methodref 67 154), (0, .nameAndType 155 156), (0, u "equalsIgnoreCase"), (0, u "(BB)Z"), (64, .class_ 223), (1, u "java/lang/StringLatin1$LinesSpliterator"), (116, u "regionMatchesCI"), (0, u "([BI[BII)Z"), (48, .class_ 391), (0, u "java/lang/StringLatin1$CharsSpliterator")] 3

def k17m0 : Method := { name := "<init>", desc := "()V", sig := { parameters := [], returnType := none }, accessFlags := 0, code := none }
def k17c1 : Code := { maxStack := 2, maxLocals := 8, code := jdk_43_method_30_code, exceptionTable := #[], attributes := #[] }
def k17m1 : Method := { name := "regionMatchesCI", desc := "([BI[BII)Z", sig := { parameters := [(.array .byte), .int, (.array .byte), .int, .int], returnType := some .boolean }, accessFlags := 9, code := some k17c1 }
/-- java/lang/StringLatin1 -/
def k17 : Class := { plain "java/lang/StringLatin1" (some 0) with
  accessFlags := 48
  interfaces := #[]
  cf := some (fileOf pool17 14 #[.nestMembers #[390, 221]] #[{ accessFlags := 0, nameIndex := 7, descriptorIndex := 8, attributes := #[] }, { accessFlags := 9, nameIndex := 340, descriptorIndex := 341, attributes := #[] }] 48 4 #[] #[{ accessFlags := 4120, nameIndex := 121, descriptorIndex := 122, attributes := #[] }])
  fields := #[{ name := "$assertionsDisabled", type := .boolean, accessFlags := 4120, slot := 0, constantValue := 0 }]
  methods := #[k17m0, k17m1]
  instanceTypes := #[]
  staticTypes := #[.boolean]
  resolved := Array.replicate 395 none
  statics := none }

def pool18 : Array CpInfo := pool [(2, .class_ 4), (1, u "java/lang/Object"), (0, u "<init>"), (0, u "()V"), (1, .class_ 10), (1, u "java/lang/CharacterData")] 75

def k18m0 : Method := { name := "<init>", desc := "()V", sig := { parameters := [], returnType := none }, accessFlags := 0, code := none }
/-- java/lang/CharacterData -/
def k18 : Class := { plain "java/lang/CharacterData" (some 0) with
  accessFlags := 1056
  interfaces := #[]
  cf := some (fileOf pool18 8 #[] #[{ accessFlags := 0, nameIndex := 5, descriptorIndex := 6, attributes := #[] }] 1056 2 #[] #[])
  fields := #[]
  methods := #[k18m0]
  instanceTypes := #[]
  staticTypes := #[]
  resolved := Array.replicate 86 none
  statics := none }

def pool19 : Array CpInfo := pool [(2, .class_ 4), (1, u "java/lang/CharacterDataLatin1"), (0, u "A"), (0, u "[I"), (2, u "B"), (0, u "[C"), (16, u "DIGITS"), (0, u "[B"), (8, u "sharpsMap"), (1, .class_ 41), (1, u "java/lang/CharacterData"), (0, u "<init>"), (0, u "()V"), (3, u "instance"), (0, u "Ljava/lang/CharacterDataLatin1;"), (66, u "equalsIgnoreCase"), (0, u "(BB)Z")] 24

def k19c0 : Code := { maxStack := 3, maxLocals := 3, code := jdk_116_method_22_code, exceptionTable := #[], attributes := #[] }
def k19m0 : Method := { name := "equalsIgnoreCase", desc := "(BB)Z", sig := { parameters := [.byte, .byte], returnType := some .boolean }, accessFlags := 8, code := some k19c0 }
def k19m1 : Method := { name := "<init>", desc := "()V", sig := { parameters := [], returnType := none }, accessFlags := 2, code := none }
/-- java/lang/CharacterDataLatin1 -/
def k19 : Class := { plain "java/lang/CharacterDataLatin1" (some 18) with
  accessFlags := 32
  interfaces := #[]
  cf := some (fileOf pool19 2 #[] #[{ accessFlags := 8, nameIndex := 115, descriptorIndex := 116, attributes := #[] }, { accessFlags := 2, nameIndex := 42, descriptorIndex := 43, attributes := #[] }] 32 39 #[] #[{ accessFlags := 26, nameIndex := 27, descriptorIndex := 28, attributes := #[] }, { accessFlags := 8, nameIndex := 37, descriptorIndex := 10, attributes := #[] }, { accessFlags := 24, nameIndex := 47, descriptorIndex := 48, attributes := #[] }, { accessFlags := 24, nameIndex := 5, descriptorIndex := 6, attributes := #[] }, { accessFlags := 24, nameIndex := 9, descriptorIndex := 10, attributes := #[] }])
  fields := #[{ name := "DIGITS", type := (.array .byte), accessFlags := 26, slot := 0, constantValue := 0 }, { name := "sharpsMap", type := (.array .char), accessFlags := 8, slot := 1, constantValue := 0 }, { name := "instance", type := (.object "java/lang/CharacterDataLatin1"), accessFlags := 24, slot := 2, constantValue := 0 }, { name := "A", type := (.array .int), accessFlags := 24, slot := 3, constantValue := 0 }, { name := "B", type := (.array .char), accessFlags := 24, slot := 4, constantValue := 0 }]
  methods := #[k19m0, k19m1]
  instanceTypes := #[]
  staticTypes := #[(.array .byte), (.array .char), (.object "java/lang/CharacterDataLatin1"), (.array .int), (.array .char)]
  resolved := Array.replicate 141 none
  statics := none }

def pool20 : Array CpInfo := pool [(2, .class_ 4), (1, u "java/lang/Object"), (0, u "<init>"), (0, u "()V"), (17, .class_ 26), (1, u "jdk/internal/util/Preconditions"), (28, .class_ 56), (0, u "jdk/internal/util/Preconditions$4"), (57, .class_ 115), (0, u "jdk/internal/util/Preconditions$1"), (7, u "SIOOBE_FORMATTER"), (0, u "Ljava/util/function/BiFunction;"), (0, .class_ 126), (0, u "jdk/internal/util/Preconditions$2"), (3, u "AIOOBE_FORMATTER"), (0, .class_ 132), (0, u "jdk/internal/util/Preconditions$3"), (3, u "IOOBE_FORMATTER")] 57

def k20m0 : Method := { name := "<init>", desc := "()V", sig := { parameters := [], returnType := none }, accessFlags := 1, code := none }
/-- jdk/internal/util/Preconditions -/
def k20 : Class := { plain "jdk/internal/util/Preconditions" (some 0) with
  accessFlags := 33
  interfaces := #[]
  cf := some (fileOf pool20 24 #[.nestMembers #[55, 131, 125, 114]] #[{ accessFlags := 1, nameIndex := 5, descriptorIndex := 6, attributes := #[] }] 33 2 #[] #[{ accessFlags := 25, nameIndex := 123, descriptorIndex := 124, attributes := #[] }, { accessFlags := 25, nameIndex := 130, descriptorIndex := 124, attributes := #[] }, { accessFlags := 25, nameIndex := 136, descriptorIndex := 124, attributes := #[] }])
  fields := #[{ name := "SIOOBE_FORMATTER", type := (.object "java/util/function/BiFunction"), accessFlags := 25, slot := 0, constantValue := 0 }, { name := "AIOOBE_FORMATTER", type := (.object "java/util/function/BiFunction"), accessFlags := 25, slot := 1, constantValue := 0 }, { name := "IOOBE_FORMATTER", type := (.object "java/util/function/BiFunction"), accessFlags := 25, slot := 2, constantValue := 0 }]
  methods := #[k20m0]
  instanceTypes := #[]
  staticTypes := #[(.object "java/util/function/BiFunction"), (.object "java/util/function/BiFunction"), (.object "java/util/function/BiFunction")]
  resolved := Array.replicate 194 none
  statics := some 1 }

def pool21 : Array CpInfo := pool [(9, u "<init>"), (6, .class_ 18), (1, u "java/lang/Object"), (0, u "()V"), (1, .class_ 23), (1, u "jdk/internal/util/ArraysSupport"), (0, u "LOG2_ARRAY_LONG_INDEX_SCALE"), (0, u "I"), (2, u "U"), (0, u "Ljdk/internal/misc/Unsafe;"), (8, u "BIG_ENDIAN"), (0, u "Z"), (8, u "LOG2_BYTE_BIT_SIZE"), (4, u "LOG2_ARRAY_INT_INDEX_SCALE"), (54, u "JLA"), (0, u "Ljdk/internal/access/JavaLangAccess;"), (11, u "LOG2_ARRAY_BOOLEAN_INDEX_SCALE"), (9, u "LOG2_ARRAY_BYTE_INDEX_SCALE"), (5, u "LOG2_ARRAY_CHAR_INDEX_SCALE"), (5, u "LOG2_ARRAY_SHORT_INDEX_SCALE"), (18, u "LOG2_ARRAY_FLOAT_INDEX_SCALE"), (24, u "LOG2_ARRAY_DOUBLE_INDEX_SCALE"), (89, u "T_BOOLEAN"), (2, u "T_CHAR"), (1, u "T_FLOAT"), (1, u "T_DOUBLE"), (1, u "T_BYTE"), (1, u "T_SHORT"), (1, u "T_INT"), (1, u "T_LONG"), (1, u "SOFT_MAX_ARRAY_LENGTH")] 83

def k21m0 : Method := { name := "<init>", desc := "()V", sig := { parameters := [], returnType := none }, accessFlags := 2, code := none }
/-- jdk/internal/util/ArraysSupport -/
def k21 : Class := { plain "jdk/internal/util/ArraysSupport" (some 0) with
  accessFlags := 33
  interfaces := #[]
  cf := some (fileOf pool21 21 #[] #[{ accessFlags := 2, nameIndex := 9, descriptorIndex := 19, attributes := #[] }] 33 16 #[] #[{ accessFlags := 24, nameIndex := 28, descriptorIndex := 29, attributes := #[] }, { accessFlags := 26, nameIndex := 38, descriptorIndex := 39, attributes := #[] }, { accessFlags := 25, nameIndex := 121, descriptorIndex := 25, attributes := #[] }, { accessFlags := 25, nameIndex := 131, descriptorIndex := 25, attributes := #[] }, { accessFlags := 25, nameIndex := 137, descriptorIndex := 25, attributes := #[] }, { accessFlags := 25, nameIndex := 143, descriptorIndex := 25, attributes := #[] }, { accessFlags := 25, nameIndex := 53, descriptorIndex := 25, attributes := #[] }, { accessFlags := 25, nameIndex := 24, descriptorIndex := 25, attributes := #[] }, { accessFlags := 25, nameIndex := 162, descriptorIndex := 25, attributes := #[] }, { accessFlags := 25, nameIndex := 187, descriptorIndex := 25, attributes := #[] }, { accessFlags := 26, nameIndex := 48, descriptorIndex := 25, attributes := #[] }, { accessFlags := 25, nameIndex := 277, descriptorIndex := 25, attributes := #[] }, { accessFlags := 25, nameIndex := 280, descriptorIndex := 25, attributes := #[] }, { accessFlags := 25, nameIndex := 282, descriptorIndex := 25, attributes := #[] }, { accessFlags := 25, nameIndex := 284, descriptorIndex := 25, attributes := #[] }, { accessFlags := 25, nameIndex := 286, descriptorIndex := 25, attributes := #[] }, { accessFlags := 25, nameIndex := 288, descriptorIndex := 25, attributes := #[] }, { accessFlags := 25, nameIndex := 290, descriptorIndex := 25, attributes := #[] }, { accessFlags := 25, nameIndex := 292, descriptorIndex := 25, attributes := #[] }, { accessFlags := 26, nameIndex := 108, descriptorIndex := 109, attributes := #[] }, { accessFlags := 25, nameIndex := 294, descriptorIndex := 25, attributes := #[] }])
  fields := #[{ name := "U", type := (.object "jdk/internal/misc/Unsafe"), accessFlags := 24, slot := 0, constantValue := 0 }, { name := "BIG_ENDIAN", type := .boolean, accessFlags := 26, slot := 1, constantValue := 0 }, { name := "LOG2_ARRAY_BOOLEAN_INDEX_SCALE", type := .int, accessFlags := 25, slot := 2, constantValue := 0 }, { name := "LOG2_ARRAY_BYTE_INDEX_SCALE", type := .int, accessFlags := 25, slot := 3, constantValue := 0 }, { name := "LOG2_ARRAY_CHAR_INDEX_SCALE", type := .int, accessFlags := 25, slot := 4, constantValue := 0 }, { name := "LOG2_ARRAY_SHORT_INDEX_SCALE", type := .int, accessFlags := 25, slot := 5, constantValue := 0 }, { name := "LOG2_ARRAY_INT_INDEX_SCALE", type := .int, accessFlags := 25, slot := 6, constantValue := 0 }, { name := "LOG2_ARRAY_LONG_INDEX_SCALE", type := .int, accessFlags := 25, slot := 7, constantValue := 0 }, { name := "LOG2_ARRAY_FLOAT_INDEX_SCALE", type := .int, accessFlags := 25, slot := 8, constantValue := 0 }, { name := "LOG2_ARRAY_DOUBLE_INDEX_SCALE", type := .int, accessFlags := 25, slot := 9, constantValue := 0 }, { name := "LOG2_BYTE_BIT_SIZE", type := .int, accessFlags := 26, slot := 10, constantValue := 0 }, { name := "T_BOOLEAN", type := .int, accessFlags := 25, slot := 11, constantValue := 0 }, { name := "T_CHAR", type := .int, accessFlags := 25, slot := 12, constantValue := 0 }, { name := "T_FLOAT", type := .int, accessFlags := 25, slot := 13, constantValue := 0 }, { name := "T_DOUBLE", type := .int, accessFlags := 25, slot := 14, constantValue := 0 }, { name := "T_BYTE", type := .int, accessFlags := 25, slot := 15, constantValue := 0 }, { name := "T_SHORT", type := .int, accessFlags := 25, slot := 16, constantValue := 0 }, { name := "T_INT", type := .int, accessFlags := 25, slot := 17, constantValue := 0 }, { name := "T_LONG", type := .int, accessFlags := 25, slot := 18, constantValue := 0 }, { name := "JLA", type := (.object "jdk/internal/access/JavaLangAccess"), accessFlags := 26, slot := 19, constantValue := 0 }, { name := "SOFT_MAX_ARRAY_LENGTH", type := .int, accessFlags := 25, slot := 20, constantValue := 0 }]
  methods := #[k21m0]
  instanceTypes := #[]
  staticTypes := #[(.object "jdk/internal/misc/Unsafe"), .boolean, .int, .int, .int, .int, .int, .int, .int, .int, .int, .int, .int, .int, .int, .int, .int, .int, .int, (.object "jdk/internal/access/JavaLangAccess"), .int]
  resolved := Array.replicate 378 none
  statics := none }

def pool22 : Array CpInfo := pool [(1, u "java/lang/Cloneable"), (0, .class_ 1), (0, u "java/lang/Object"), (0, .class_ 3)] 3

/-- java/lang/Cloneable -/
def k22 : Class := { plain "java/lang/Cloneable" (some 0) with
  accessFlags := 1537
  interfaces := #[]
  cf := some (fileOf pool22 2 #[] #[] 1537 4 #[] #[])
  fields := #[]
  methods := #[]
  instanceTypes := #[]
  staticTypes := #[]
  resolved := Array.replicate 8 none
  statics := none }

/-- the primitive byte -/
def k23 : Class := { plain "byte" none with kind := .primitive 'B', accessFlags := 0x411 }
/-- [B -/
def k24 : Class := { plain "[B" (some 0) with kind := .array 23 .byte, interfaces := #[22, 2], accessFlags := 1041 }

/-- the primitive char -/
def k25 : Class := { plain "char" none with kind := .primitive 'C', accessFlags := 0x411 }
/-- [C -/
def k26 : Class := { plain "[C" (some 0) with kind := .array 25 .char, interfaces := #[22, 2], accessFlags := 1041 }

/-- the primitive int -/
def k27 : Class := { plain "int" none with kind := .primitive 'I', accessFlags := 0x411 }
/-- [I -/
def k28 : Class := { plain "[I" (some 0) with kind := .array 27 .int, interfaces := #[22, 2], accessFlags := 1041 }

def heap : Heap := #[{ cls := 7, slots := #[.long 0, .int 1, .null, .int 0, .null, .int 0, .int 0], vm := .statics 7 },
  { cls := 20, slots := #[.null, .null, .null], vm := .statics 20 }]
def classes : Array Class := #[k0, k1, k2, k3, k4, k5, k6, k7, k8, k9, k10, k11, k12, k13, k14, k15, k16, k17, k18, k19, k20, k21, k22, k23, k24, k25, k26, k27, k28]
def interned : List (Array UInt16 × Addr) := []
def slotsUsed : Nat := 10
def theMethod : MethodId := ⟨1, 1⟩
def args0 : Array Value := #[.int 5, .int 5, .long 5, .int 5]
def aboutOver (below : List Frame) : State where
  vm := { classes := classes, interned := interned.toArray }
  heap := heap
  slotsUsed := slotsUsed
  threads := #[{ frames := .invoking theMethod args0 :: below }]
def below0 : List Frame := [.native { method := ⟨0, 0⟩, args := #[] }]
def about1 : State := aboutOver below0
def p0 : Program := .bare "" "" ""
def e0 : Env := launch0.env 0 0 0
theorem w_frames : about1.frames = Frame.invoking theMethod args0 :: below0 := rfl
set_option maxRecDepth 65536 in
theorem w_args : argsFit about1.vm theMethod args0 = true := by decide +kernel
set_option maxRecDepth 65536 in
theorem w_heap : heapFits about1 = true := by decide +kernel
set_option maxRecDepth 65536 in
theorem w_runnable : about1.curStatus? = some .runnable := by decide +kernel
set_option maxRecDepth 65536 in
theorem w_alone : about1.alone = true := by decide +kernel
set_option maxRecDepth 65536 in
theorem w_named : about1.methodNamed? x = some theMethod := by decide +kernel
set_option maxRecDepth 65536 in
theorem w_hears : about1.hears theMethod below0 = true := by decide +kernel
set_option maxRecDepth 65536 in
theorem w_ripe : about1.ripe theMethod args0 below0 = true := by decide +kernel
theorem w_running : about1.status = .running := rfl
set_option maxRecDepth 65536 in
theorem w_room : about1.hasRoom e0.platform room_1 = true :=
  launch0.hasRoom_least _ room_1 (by decide +kernel) (by decide +kernel) (by decide +kernel) (by decide +kernel) (by decide +kernel) (by decide +kernel)
theorem allAtoms_all (ts : List Jvm.Cond) (a : Array Jvm.Value) (st : Jvm.State) : (allAtoms ts).before a st = ts.all (fun c => c.before a st) := by
  induction ts with
  | nil => rfl
  | cons c t ih =>
    show (Jvm.Cond.and c (allAtoms t)).before a st = _
    rw [Jvm.Cond.before_and, ih, List.all_cons]
def words1 : List Jvm.Cond := Jvm.Cond.code x code maxLocals ret :: tables_1
/-- a 'code' word, met by the world's own term for the bytes: nothing is compared byte by byte -/
theorem code_word {y : MethodName} {bytes : ByteArray} {mx : Nat} {rt : Option FieldType} {a : Array Value} {s : State} {m : MethodId} {meth : Method} {c : Code} (h1 : s.methodNamed? y = some m) (h2 : s.vm.method? m = some meth) (h3 : meth.code = some c) (h4 : c.code = bytes)
    (h5 : (c.maxLocals == mx && c.exceptionTable.isEmpty && decide (c.maxStack ≤ mostOperands) && decide (meth.sig.returnType = rt) && !meth.locks && decide (parseMethodDescriptor y.desc = some meth.sig)) = true) : (Jvm.Cond.code y bytes mx rt).before a s = true := by
  simp only [Bool.and_eq_true, beq_iff_eq, Bool.not_eq_true', decide_eq_true_eq] at h5
  obtain ⟨⟨⟨⟨⟨g1, g2⟩, g3⟩, g4⟩, g5⟩, g6⟩ := h5
  simp [Cond.before, Cond.holds, Cond.value, h1, h2, h3, h4, g1, g2, g3, g4, g5, g6]
def isCode : Jvm.Cond → Bool
  | .code _ _ _ _ => true
  | _ => false
theorem all_split {L : List Jvm.Cond} {P : Jvm.Cond → Bool} (h1 : L.all (fun c => isCode c || P c) = true) (h2 : ∀ c ∈ L.filter isCode, P c = true) : L.all P = true := by
  refine List.all_eq_true.mpr fun c hc => ?_
  have h := List.all_eq_true.mp h1 c hc
  rcases Bool.eq_false_or_eq_true (isCode c) with hi | hi
  · exact h2 c (List.mem_filter.mpr ⟨hc, hi⟩)
  · simpa [hi] using h
set_option maxRecDepth 65536 in
theorem w_c0 : (Jvm.Cond.code x code maxLocals ret).before args0 about1 = true := code_word (m := ⟨1, 1⟩) (meth := k1m1) (c := k1c1) (by decide +kernel) rfl rfl rfl (by decide +kernel)
set_option maxRecDepth 65536 in
theorem w_c1 : (Jvm.Cond.code ({ cls := "com/example/remitter/remitter/MediaTypeIsPinLaw", name := "tgt", desc := "(IIIIII)I" } : Jvm.MethodName) method_3_code (7 : Nat) (Option.some Jvm.ClassFile.FieldType.int)).before args0 about1 = true := code_word (m := ⟨1, 2⟩) (meth := k1m2) (c := k1c2) (by decide +kernel) rfl rfl rfl (by decide +kernel)
set_option maxRecDepth 65536 in
theorem w_c2 : (Jvm.Cond.code ({ cls := "com/example/remitter/remitter/MediaTypeIsPinLaw", name := "ch", desc := "(IJII)I" } : Jvm.MethodName) method_4_code (5 : Nat) (Option.some Jvm.ClassFile.FieldType.int)).before args0 about1 = true := code_word (m := ⟨1, 3⟩) (meth := k1m3) (c := k1c3) (by decide +kernel) rfl rfl rfl (by decide +kernel)
set_option maxRecDepth 65536 in
theorem w_c3 : (Jvm.Cond.code ({ cls := "com/example/remitter/remitter/MediaTypeIsPinLaw", name := "str", desc := "(IIIIII)Ljava/lang/String;" } : Jvm.MethodName) method_8_code (6 : Nat) (Option.some (Jvm.ClassFile.FieldType.object "java/lang/String"))).before args0 about1 = true := code_word (m := ⟨1, 7⟩) (meth := k1m7) (c := k1c7) (by decide +kernel) rfl rfl rfl (by decide +kernel)
set_option maxRecDepth 65536 in
theorem w_c4 : (Jvm.Cond.code ({ cls := "java/lang/String", name := "<init>", desc := "([C)V" } : Jvm.MethodName) jdk_42_method_3_code (2 : Nat) (Option.none : Option Jvm.ClassFile.FieldType)).before args0 about1 = true := code_word (m := ⟨7, 1⟩) (meth := k7m1) (c := k7c1) (by decide +kernel) rfl rfl rfl (by decide +kernel)
set_option maxRecDepth 65536 in
theorem w_c5 : (Jvm.Cond.code ({ cls := "java/lang/String", name := "<init>", desc := "([CIILjava/lang/Void;)V" } : Jvm.MethodName) jdk_42_method_149_code (6 : Nat) (Option.none : Option Jvm.ClassFile.FieldType)).before args0 about1 = true := code_word (m := ⟨7, 7⟩) (meth := k7m7) (c := k7c7) (by decide +kernel) rfl rfl rfl (by decide +kernel)
set_option maxRecDepth 65536 in
theorem w_c6 : (Jvm.Cond.code ({ cls := "java/lang/Object", name := "<init>", desc := "()V" } : Jvm.MethodName) object_method_1_code (1 : Nat) (Option.none : Option Jvm.ClassFile.FieldType)).before args0 about1 = true := code_word (m := ⟨0, 0⟩) (meth := k0m0) (c := k0c0) (by decide +kernel) rfl rfl rfl (by decide +kernel)
set_option maxRecDepth 65536 in
theorem w_c7 : (Jvm.Cond.code ({ cls := "com/example/remitter/remitter/MediaType", name := "<init>", desc := "(Ljava/lang/String;Ljava/lang/String;Ljava/util/Map;)V" } : Jvm.MethodName) prog_12_method_1_code (4 : Nat) (Option.none : Option Jvm.ClassFile.FieldType)).before args0 about1 = true := code_word (m := ⟨9, 0⟩) (meth := k9m0) (c := k9c0) (by decide +kernel) rfl rfl rfl (by decide +kernel)
set_option maxRecDepth 65536 in
theorem w_c8 : (Jvm.Cond.code ({ cls := "java/lang/Record", name := "<init>", desc := "()V" } : Jvm.MethodName) jdk_30_method_1_code (1 : Nat) (Option.none : Option Jvm.ClassFile.FieldType)).before args0 about1 = true := code_word (m := ⟨8, 0⟩) (meth := k8m0) (c := k8c0) (by decide +kernel) rfl rfl rfl (by decide +kernel)
set_option maxRecDepth 65536 in
theorem w_c9 : (Jvm.Cond.code ({ cls := "com/example/remitter/remitter/MediaType", name := "is", desc := "(Ljava/lang/String;)Z" } : Jvm.MethodName) prog_12_method_3_code (2 : Nat) (Option.some Jvm.ClassFile.FieldType.boolean)).before args0 about1 = true := code_word (m := ⟨9, 1⟩) (meth := k9m1) (c := k9c1) (by decide +kernel) rfl rfl rfl (by decide +kernel)
set_option maxRecDepth 65536 in
theorem w_c10 : (Jvm.Cond.code ({ cls := "java/lang/StringBuilder", name := "<init>", desc := "()V" } : Jvm.MethodName) jdk_67_method_1_code (1 : Nat) (Option.none : Option Jvm.ClassFile.FieldType)).before args0 about1 = true := code_word (m := ⟨12, 0⟩) (meth := k12m0) (c := k12c0) (by decide +kernel) rfl rfl rfl (by decide +kernel)
set_option maxRecDepth 65536 in
theorem w_c11 : (Jvm.Cond.code ({ cls := "java/lang/AbstractStringBuilder", name := "<init>", desc := "(I)V" } : Jvm.MethodName) jdk_68_method_2_code (2 : Nat) (Option.none : Option Jvm.ClassFile.FieldType)).before args0 about1 = true := code_word (m := ⟨11, 1⟩) (meth := k11m1) (c := k11c1) (by decide +kernel) rfl rfl rfl (by decide +kernel)
set_option maxRecDepth 65536 in
theorem w_c12 : (Jvm.Cond.code ({ cls := "java/lang/StringBuilder", name := "append", desc := "(Ljava/lang/String;)Ljava/lang/StringBuilder;" } : Jvm.MethodName) jdk_67_method_7_code (2 : Nat) (Option.some (Jvm.ClassFile.FieldType.object "java/lang/StringBuilder"))).before args0 about1 = true := code_word (m := ⟨12, 1⟩) (meth := k12m1) (c := k12c1) (by decide +kernel) rfl rfl rfl (by decide +kernel)
set_option maxRecDepth 65536 in
theorem w_c13 : (Jvm.Cond.code ({ cls := "java/lang/AbstractStringBuilder", name := "append", desc := "(Ljava/lang/String;)Ljava/lang/AbstractStringBuilder;" } : Jvm.MethodName) jdk_68_method_22_code (3 : Nat) (Option.some (Jvm.ClassFile.FieldType.object "java/lang/AbstractStringBuilder"))).before args0 about1 = true := code_word (m := ⟨11, 4⟩) (meth := k11m4) (c := k11c4) (by decide +kernel) rfl rfl rfl (by decide +kernel)
set_option maxRecDepth 65536 in
theorem w_c14 : (Jvm.Cond.code ({ cls := "java/lang/String", name := "length", desc := "()I" } : Jvm.MethodName) jdk_42_method_54_code (1 : Nat) (Option.some Jvm.ClassFile.FieldType.int)).before args0 about1 = true := code_word (m := ⟨7, 3⟩) (meth := k7m3) (c := k7c3) (by decide +kernel) rfl rfl rfl (by decide +kernel)
set_option maxRecDepth 65536 in
theorem w_c15 : (Jvm.Cond.code ({ cls := "java/lang/String", name := "coder", desc := "()B" } : Jvm.MethodName) jdk_42_method_152_code (1 : Nat) (Option.some Jvm.ClassFile.FieldType.byte)).before args0 about1 = true := code_word (m := ⟨7, 9⟩) (meth := k7m9) (c := k7c9) (by decide +kernel) rfl rfl rfl (by decide +kernel)
set_option maxRecDepth 65536 in
theorem w_c16 : (Jvm.Cond.code ({ cls := "java/lang/AbstractStringBuilder", name := "ensureCapacityInternal", desc := "(I)V" } : Jvm.MethodName) jdk_68_method_9_code (3 : Nat) (Option.none : Option Jvm.ClassFile.FieldType)).before args0 about1 = true := code_word (m := ⟨11, 3⟩) (meth := k11m3) (c := k11c3) (by decide +kernel) rfl rfl rfl (by decide +kernel)
set_option maxRecDepth 65536 in
theorem w_c17 : (Jvm.Cond.code ({ cls := "java/lang/AbstractStringBuilder", name := "putStringAt", desc := "(ILjava/lang/String;)V" } : Jvm.MethodName) jdk_68_method_73_code (3 : Nat) (Option.none : Option Jvm.ClassFile.FieldType)).before args0 about1 = true := code_word (m := ⟨11, 8⟩) (meth := k11m8) (c := k11c8) (by decide +kernel) rfl rfl rfl (by decide +kernel)
set_option maxRecDepth 65536 in
theorem w_c18 : (Jvm.Cond.code ({ cls := "java/lang/AbstractStringBuilder", name := "inflateIfNeededFor", desc := "(Ljava/lang/String;)V" } : Jvm.MethodName) jdk_68_method_71_code (2 : Nat) (Option.none : Option Jvm.ClassFile.FieldType)).before args0 about1 = true := code_word (m := ⟨11, 7⟩) (meth := k11m7) (c := k11c7) (by decide +kernel) rfl rfl rfl (by decide +kernel)
set_option maxRecDepth 65536 in
theorem w_c19 : (Jvm.Cond.code ({ cls := "java/lang/String", name := "getBytes", desc := "([BIB)V" } : Jvm.MethodName) jdk_42_method_147_code (4 : Nat) (Option.none : Option Jvm.ClassFile.FieldType)).before args0 about1 = true := code_word (m := ⟨7, 6⟩) (meth := k7m6) (c := k7c6) (by decide +kernel) rfl rfl rfl (by decide +kernel)
set_option maxRecDepth 65536 in
theorem w_c20 : (Jvm.Cond.code ({ cls := "java/lang/StringBuilder", name := "toString", desc := "()Ljava/lang/String;" } : Jvm.MethodName) jdk_67_method_42_code (1 : Nat) (Option.some (Jvm.ClassFile.FieldType.object "java/lang/String"))).before args0 about1 = true := code_word (m := ⟨12, 2⟩) (meth := k12m2) (c := k12c2) (by decide +kernel) rfl rfl rfl (by decide +kernel)
set_option maxRecDepth 65536 in
theorem w_c21 : (Jvm.Cond.code ({ cls := "java/lang/String", name := "<init>", desc := "(Ljava/lang/StringBuilder;)V" } : Jvm.MethodName) jdk_42_method_53_code (2 : Nat) (Option.none : Option Jvm.ClassFile.FieldType)).before args0 about1 = true := code_word (m := ⟨7, 2⟩) (meth := k7m2) (c := k7c2) (by decide +kernel) rfl rfl rfl (by decide +kernel)
set_option maxRecDepth 65536 in
theorem w_c22 : (Jvm.Cond.code ({ cls := "java/lang/String", name := "<init>", desc := "(Ljava/lang/AbstractStringBuilder;Ljava/lang/Void;)V" } : Jvm.MethodName) jdk_42_method_150_code (5 : Nat) (Option.none : Option Jvm.ClassFile.FieldType)).before args0 about1 = true := code_word (m := ⟨7, 8⟩) (meth := k7m8) (c := k7c8) (by decide +kernel) rfl rfl rfl (by decide +kernel)
set_option maxRecDepth 65536 in
theorem w_c23 : (Jvm.Cond.code ({ cls := "java/lang/AbstractStringBuilder", name := "getValue", desc := "()[B" } : Jvm.MethodName) jdk_68_method_64_code (1 : Nat) (Option.some (Jvm.ClassFile.FieldType.array Jvm.ClassFile.FieldType.byte))).before args0 about1 = true := code_word (m := ⟨11, 5⟩) (meth := k11m5) (c := k11c5) (by decide +kernel) rfl rfl rfl (by decide +kernel)
set_option maxRecDepth 65536 in
theorem w_c24 : (Jvm.Cond.code ({ cls := "java/lang/StringBuilder", name := "length", desc := "()I" } : Jvm.MethodName) jdk_67_method_93_code (1 : Nat) (Option.some Jvm.ClassFile.FieldType.int)).before args0 about1 = true := code_word (m := ⟨12, 3⟩) (meth := k12m3) (c := k12c3) (by decide +kernel) rfl rfl rfl (by decide +kernel)
set_option maxRecDepth 65536 in
theorem w_c25 : (Jvm.Cond.code ({ cls := "java/lang/AbstractStringBuilder", name := "length", desc := "()I" } : Jvm.MethodName) jdk_68_method_6_code (1 : Nat) (Option.some Jvm.ClassFile.FieldType.int)).before args0 about1 = true := code_word (m := ⟨11, 2⟩) (meth := k11m2) (c := k11c2) (by decide +kernel) rfl rfl rfl (by decide +kernel)
set_option maxRecDepth 65536 in
theorem w_c26 : (Jvm.Cond.code ({ cls := "java/lang/AbstractStringBuilder", name := "isLatin1", desc := "()Z" } : Jvm.MethodName) jdk_68_method_68_code (1 : Nat) (Option.some Jvm.ClassFile.FieldType.boolean)).before args0 about1 = true := code_word (m := ⟨11, 6⟩) (meth := k11m6) (c := k11c6) (by decide +kernel) rfl rfl rfl (by decide +kernel)
set_option maxRecDepth 65536 in
theorem w_c27 : (Jvm.Cond.code ({ cls := "java/util/Arrays", name := "copyOfRange", desc := "([BII)[B" } : Jvm.MethodName) jdk_65_method_132_code (3 : Nat) (Option.some (Jvm.ClassFile.FieldType.array Jvm.ClassFile.FieldType.byte))).before args0 about1 = true := code_word (m := ⟨14, 2⟩) (meth := k14m2) (c := k14c2) (by decide +kernel) rfl rfl rfl (by decide +kernel)
set_option maxRecDepth 65536 in
theorem w_c28 : (Jvm.Cond.code ({ cls := "java/util/Arrays", name := "copyOfRangeByte", desc := "([BII)[B" } : Jvm.MethodName) jdk_65_method_133_code (5 : Nat) (Option.some (Jvm.ClassFile.FieldType.array Jvm.ClassFile.FieldType.byte))).before args0 about1 = true := code_word (m := ⟨14, 3⟩) (meth := k14m3) (c := k14c3) (by decide +kernel) rfl rfl rfl (by decide +kernel)
set_option maxRecDepth 65536 in
theorem w_c29 : (Jvm.Cond.code ({ cls := "java/util/Arrays", name := "checkLength", desc := "(II)V" } : Jvm.MethodName) jdk_65_method_131_code (2 : Nat) (Option.none : Option Jvm.ClassFile.FieldType)).before args0 about1 = true := code_word (m := ⟨14, 1⟩) (meth := k14m1) (c := k14c1) (by decide +kernel) rfl rfl rfl (by decide +kernel)
set_option maxRecDepth 65536 in
theorem w_c30 : (Jvm.Cond.code ({ cls := "java/lang/Math", name := "min", desc := "(II)I" } : Jvm.MethodName) jdk_29_method_69_code (2 : Nat) (Option.some Jvm.ClassFile.FieldType.int)).before args0 about1 = true := code_word (m := ⟨15, 1⟩) (meth := k15m1) (c := k15c1) (by decide +kernel) rfl rfl rfl (by decide +kernel)
set_option maxRecDepth 65536 in
theorem w_c31 : (Jvm.Cond.code ({ cls := "java/lang/String", name := "equalsIgnoreCase", desc := "(Ljava/lang/String;)Z" } : Jvm.MethodName) jdk_42_method_70_code (2 : Nat) (Option.some Jvm.ClassFile.FieldType.boolean)).before args0 about1 = true := code_word (m := ⟨7, 4⟩) (meth := k7m4) (c := k7c4) (by decide +kernel) rfl rfl rfl (by decide +kernel)
set_option maxRecDepth 65536 in
theorem w_c32 : (Jvm.Cond.code ({ cls := "java/lang/StringUTF16", name := "compress", desc := "([CII)[B" } : Jvm.MethodName) jdk_52_method_16_code (6 : Nat) (Option.some (Jvm.ClassFile.FieldType.array Jvm.ClassFile.FieldType.byte))).before args0 about1 = true := code_word (m := ⟨16, 2⟩) (meth := k16m2) (c := k16c2) (by decide +kernel) rfl rfl rfl (by decide +kernel)
set_option maxRecDepth 65536 in
theorem w_c33 : (Jvm.Cond.code ({ cls := "java/lang/StringUTF16", name := "compress", desc := "([CI[BII)I" } : Jvm.MethodName) jdk_52_method_21_code (7 : Nat) (Option.some Jvm.ClassFile.FieldType.int)).before args0 about1 = true := code_word (m := ⟨16, 3⟩) (meth := k16m3) (c := k16c3) (by decide +kernel) rfl rfl rfl (by decide +kernel)
set_option maxRecDepth 65536 in
theorem w_c34 : (Jvm.Cond.code ({ cls := "java/lang/StringUTF16", name := "coderFromArrayLen", desc := "([BI)B" } : Jvm.MethodName) jdk_52_method_15_code (2 : Nat) (Option.some Jvm.ClassFile.FieldType.byte)).before args0 about1 = true := code_word (m := ⟨16, 1⟩) (meth := k16m1) (c := k16c1) (by decide +kernel) rfl rfl rfl (by decide +kernel)
set_option maxRecDepth 65536 in
theorem w_c35 : (Jvm.Cond.code ({ cls := "java/lang/String", name := "regionMatches", desc := "(ZILjava/lang/String;II)Z" } : Jvm.MethodName) jdk_42_method_74_code (9 : Nat) (Option.some Jvm.ClassFile.FieldType.boolean)).before args0 about1 = true := code_word (m := ⟨7, 5⟩) (meth := k7m5) (c := k7c5) (by decide +kernel) rfl rfl rfl (by decide +kernel)
set_option maxRecDepth 65536 in
theorem w_c36 : (Jvm.Cond.code ({ cls := "java/lang/StringLatin1", name := "regionMatchesCI", desc := "([BI[BII)Z" } : Jvm.MethodName) jdk_43_method_30_code (8 : Nat) (Option.some Jvm.ClassFile.FieldType.boolean)).before args0 about1 = true := code_word (m := ⟨17, 1⟩) (meth := k17m1) (c := k17c1) (by decide +kernel) rfl rfl rfl (by decide +kernel)
set_option maxRecDepth 65536 in
theorem w_c37 : (Jvm.Cond.code ({ cls := "java/lang/CharacterDataLatin1", name := "equalsIgnoreCase", desc := "(BB)Z" } : Jvm.MethodName) jdk_116_method_22_code (3 : Nat) (Option.some Jvm.ClassFile.FieldType.boolean)).before args0 about1 = true := code_word (m := ⟨19, 0⟩) (meth := k19m0) (c := k19c0) (by decide +kernel) rfl rfl rfl (by decide +kernel)
set_option maxRecDepth 65536 in
theorem w_c38 : (Jvm.Cond.code ({ cls := "com/example/remitter/remitter/MediaTypeIsPinLaw", name := "same", desc := "(IIII)Z" } : Jvm.MethodName) method_7_code (4 : Nat) (Option.some Jvm.ClassFile.FieldType.boolean)).before args0 about1 = true := code_word (m := ⟨1, 6⟩) (meth := k1m6) (c := k1c6) (by decide +kernel) rfl rfl rfl (by decide +kernel)
set_option maxRecDepth 65536 in
theorem w_c39 : (Jvm.Cond.code ({ cls := "com/example/remitter/remitter/MediaTypeIsPinLaw", name := "fold", desc := "(I)I" } : Jvm.MethodName) method_6_code (1 : Nat) (Option.some Jvm.ClassFile.FieldType.int)).before args0 about1 = true := code_word (m := ⟨1, 5⟩) (meth := k1m5) (c := k1c5) (by decide +kernel) rfl rfl rfl (by decide +kernel)
set_option maxRecDepth 65536 in
theorem w_c40 : (Jvm.Cond.code ({ cls := "com/example/remitter/remitter/MediaTypeIsPinLaw", name := "flip", desc := "(I)I" } : Jvm.MethodName) method_5_code (1 : Nat) (Option.some Jvm.ClassFile.FieldType.int)).before args0 about1 = true := code_word (m := ⟨1, 4⟩) (meth := k1m4) (c := k1c4) (by decide +kernel) rfl rfl rfl (by decide +kernel)
def codes1 : List Jvm.Cond := [Jvm.Cond.code x code maxLocals ret, Jvm.Cond.code ({ cls := "com/example/remitter/remitter/MediaTypeIsPinLaw", name := "tgt", desc := "(IIIIII)I" } : Jvm.MethodName) method_3_code (7 : Nat) (Option.some Jvm.ClassFile.FieldType.int), Jvm.Cond.code ({ cls := "com/example/remitter/remitter/MediaTypeIsPinLaw", name := "ch", desc := "(IJII)I" } : Jvm.MethodName) method_4_code (5 : Nat) (Option.some Jvm.ClassFile.FieldType.int), Jvm.Cond.code ({ cls := "com/example/remitter/remitter/MediaTypeIsPinLaw", name := "str", desc := "(IIIIII)Ljava/lang/String;" } : Jvm.MethodName) method_8_code (6 : Nat) (Option.some (Jvm.ClassFile.FieldType.object "java/lang/String")), Jvm.Cond.code ({ cls := "java/lang/String", name := "<init>", desc := "([C)V" } : Jvm.MethodName) jdk_42_method_3_code (2 : Nat) (Option.none : Option Jvm.ClassFile.FieldType), Jvm.Cond.code ({ cls := "java/lang/String", name := "<init>", desc := "([CIILjava/lang/Void;)V" } : Jvm.MethodName) jdk_42_method_149_code (6 : Nat) (Option.none : Option Jvm.ClassFile.FieldType), Jvm.Cond.code ({ cls := "java/lang/Object", name := "<init>", desc := "()V" } : Jvm.MethodName) object_method_1_code (1 : Nat) (Option.none : Option Jvm.ClassFile.FieldType), Jvm.Cond.code ({ cls := "com/example/remitter/remitter/MediaType", name := "<init>", desc := "(Ljava/lang/String;Ljava/lang/String;Ljava/util/Map;)V" } : Jvm.MethodName) prog_12_method_1_code (4 : Nat) (Option.none : Option Jvm.ClassFile.FieldType), Jvm.Cond.code ({ cls := "java/lang/Record", name := "<init>", desc := "()V" } : Jvm.MethodName) jdk_30_method_1_code (1 : Nat) (Option.none : Option Jvm.ClassFile.FieldType), Jvm.Cond.code ({ cls := "com/example/remitter/remitter/MediaType", name := "is", desc := "(Ljava/lang/String;)Z" } : Jvm.MethodName) prog_12_method_3_code (2 : Nat) (Option.some Jvm.ClassFile.FieldType.boolean), Jvm.Cond.code ({ cls := "java/lang/StringBuilder", name := "<init>", desc := "()V" } : Jvm.MethodName) jdk_67_method_1_code (1 : Nat) (Option.none : Option Jvm.ClassFile.FieldType), Jvm.Cond.code ({ cls := "java/lang/AbstractStringBuilder", name := "<init>", desc := "(I)V" } : Jvm.MethodName) jdk_68_method_2_code (2 : Nat) (Option.none : Option Jvm.ClassFile.FieldType), Jvm.Cond.code ({ cls := "java/lang/StringBuilder", name := "append", desc := "(Ljava/lang/String;)Ljava/lang/StringBuilder;" } : Jvm.MethodName) jdk_67_method_7_code (2 : Nat) (Option.some (Jvm.ClassFile.FieldType.object "java/lang/StringBuilder")), Jvm.Cond.code ({ cls := "java/lang/AbstractStringBuilder", name := "append", desc := "(Ljava/lang/String;)Ljava/lang/AbstractStringBuilder;" } : Jvm.MethodName) jdk_68_method_22_code (3 : Nat) (Option.some (Jvm.ClassFile.FieldType.object "java/lang/AbstractStringBuilder")), Jvm.Cond.code ({ cls := "java/lang/String", name := "length", desc := "()I" } : Jvm.MethodName) jdk_42_method_54_code (1 : Nat) (Option.some Jvm.ClassFile.FieldType.int), Jvm.Cond.code ({ cls := "java/lang/String", name := "coder", desc := "()B" } : Jvm.MethodName) jdk_42_method_152_code (1 : Nat) (Option.some Jvm.ClassFile.FieldType.byte), Jvm.Cond.code ({ cls := "java/lang/AbstractStringBuilder", name := "ensureCapacityInternal", desc := "(I)V" } : Jvm.MethodName) jdk_68_method_9_code (3 : Nat) (Option.none : Option Jvm.ClassFile.FieldType), Jvm.Cond.code ({ cls := "java/lang/AbstractStringBuilder", name := "putStringAt", desc := "(ILjava/lang/String;)V" } : Jvm.MethodName) jdk_68_method_73_code (3 : Nat) (Option.none : Option Jvm.ClassFile.FieldType), Jvm.Cond.code ({ cls := "java/lang/AbstractStringBuilder", name := "inflateIfNeededFor", desc := "(Ljava/lang/String;)V" } : Jvm.MethodName) jdk_68_method_71_code (2 : Nat) (Option.none : Option Jvm.ClassFile.FieldType), Jvm.Cond.code ({ cls := "java/lang/String", name := "getBytes", desc := "([BIB)V" } : Jvm.MethodName) jdk_42_method_147_code (4 : Nat) (Option.none : Option Jvm.ClassFile.FieldType), Jvm.Cond.code ({ cls := "java/lang/StringBuilder", name := "toString", desc := "()Ljava/lang/String;" } : Jvm.MethodName) jdk_67_method_42_code (1 : Nat) (Option.some (Jvm.ClassFile.FieldType.object "java/lang/String")), Jvm.Cond.code ({ cls := "java/lang/String", name := "<init>", desc := "(Ljava/lang/StringBuilder;)V" } : Jvm.MethodName) jdk_42_method_53_code (2 : Nat) (Option.none : Option Jvm.ClassFile.FieldType), Jvm.Cond.code ({ cls := "java/lang/String", name := "<init>", desc := "(Ljava/lang/AbstractStringBuilder;Ljava/lang/Void;)V" } : Jvm.MethodName) jdk_42_method_150_code (5 : Nat) (Option.none : Option Jvm.ClassFile.FieldType), Jvm.Cond.code ({ cls := "java/lang/AbstractStringBuilder", name := "getValue", desc := "()[B" } : Jvm.MethodName) jdk_68_method_64_code (1 : Nat) (Option.some (Jvm.ClassFile.FieldType.array Jvm.ClassFile.FieldType.byte)), Jvm.Cond.code ({ cls := "java/lang/StringBuilder", name := "length", desc := "()I" } : Jvm.MethodName) jdk_67_method_93_code (1 : Nat) (Option.some Jvm.ClassFile.FieldType.int), Jvm.Cond.code ({ cls := "java/lang/AbstractStringBuilder", name := "length", desc := "()I" } : Jvm.MethodName) jdk_68_method_6_code (1 : Nat) (Option.some Jvm.ClassFile.FieldType.int), Jvm.Cond.code ({ cls := "java/lang/AbstractStringBuilder", name := "isLatin1", desc := "()Z" } : Jvm.MethodName) jdk_68_method_68_code (1 : Nat) (Option.some Jvm.ClassFile.FieldType.boolean), Jvm.Cond.code ({ cls := "java/util/Arrays", name := "copyOfRange", desc := "([BII)[B" } : Jvm.MethodName) jdk_65_method_132_code (3 : Nat) (Option.some (Jvm.ClassFile.FieldType.array Jvm.ClassFile.FieldType.byte)), Jvm.Cond.code ({ cls := "java/util/Arrays", name := "copyOfRangeByte", desc := "([BII)[B" } : Jvm.MethodName) jdk_65_method_133_code (5 : Nat) (Option.some (Jvm.ClassFile.FieldType.array Jvm.ClassFile.FieldType.byte)), Jvm.Cond.code ({ cls := "java/util/Arrays", name := "checkLength", desc := "(II)V" } : Jvm.MethodName) jdk_65_method_131_code (2 : Nat) (Option.none : Option Jvm.ClassFile.FieldType), Jvm.Cond.code ({ cls := "java/lang/Math", name := "min", desc := "(II)I" } : Jvm.MethodName) jdk_29_method_69_code (2 : Nat) (Option.some Jvm.ClassFile.FieldType.int), Jvm.Cond.code ({ cls := "java/lang/String", name := "equalsIgnoreCase", desc := "(Ljava/lang/String;)Z" } : Jvm.MethodName) jdk_42_method_70_code (2 : Nat) (Option.some Jvm.ClassFile.FieldType.boolean), Jvm.Cond.code ({ cls := "java/lang/StringUTF16", name := "compress", desc := "([CII)[B" } : Jvm.MethodName) jdk_52_method_16_code (6 : Nat) (Option.some (Jvm.ClassFile.FieldType.array Jvm.ClassFile.FieldType.byte)), Jvm.Cond.code ({ cls := "java/lang/StringUTF16", name := "compress", desc := "([CI[BII)I" } : Jvm.MethodName) jdk_52_method_21_code (7 : Nat) (Option.some Jvm.ClassFile.FieldType.int), Jvm.Cond.code ({ cls := "java/lang/StringUTF16", name := "coderFromArrayLen", desc := "([BI)B" } : Jvm.MethodName) jdk_52_method_15_code (2 : Nat) (Option.some Jvm.ClassFile.FieldType.byte), Jvm.Cond.code ({ cls := "java/lang/String", name := "regionMatches", desc := "(ZILjava/lang/String;II)Z" } : Jvm.MethodName) jdk_42_method_74_code (9 : Nat) (Option.some Jvm.ClassFile.FieldType.boolean), Jvm.Cond.code ({ cls := "java/lang/StringLatin1", name := "regionMatchesCI", desc := "([BI[BII)Z" } : Jvm.MethodName) jdk_43_method_30_code (8 : Nat) (Option.some Jvm.ClassFile.FieldType.boolean), Jvm.Cond.code ({ cls := "java/lang/CharacterDataLatin1", name := "equalsIgnoreCase", desc := "(BB)Z" } : Jvm.MethodName) jdk_116_method_22_code (3 : Nat) (Option.some Jvm.ClassFile.FieldType.boolean), Jvm.Cond.code ({ cls := "com/example/remitter/remitter/MediaTypeIsPinLaw", name := "same", desc := "(IIII)Z" } : Jvm.MethodName) method_7_code (4 : Nat) (Option.some Jvm.ClassFile.FieldType.boolean), Jvm.Cond.code ({ cls := "com/example/remitter/remitter/MediaTypeIsPinLaw", name := "fold", desc := "(I)I" } : Jvm.MethodName) method_6_code (1 : Nat) (Option.some Jvm.ClassFile.FieldType.int), Jvm.Cond.code ({ cls := "com/example/remitter/remitter/MediaTypeIsPinLaw", name := "flip", desc := "(I)I" } : Jvm.MethodName) method_5_code (1 : Nat) (Option.some Jvm.ClassFile.FieldType.int)]
set_option maxRecDepth 65536 in
theorem codes_eq : words1.filter isCode = codes1 := rfl
theorem w_codes : ∀ c ∈ words1.filter isCode, c.before args0 about1 = true := by
  rw [codes_eq]
  intro c hc
  simp only [codes1, List.mem_cons, List.not_mem_nil, or_false] at hc
  rcases hc with rfl | rfl | rfl | rfl | rfl | rfl | rfl | rfl | rfl | rfl | rfl | rfl | rfl | rfl | rfl | rfl | rfl | rfl | rfl | rfl | rfl | rfl | rfl | rfl | rfl | rfl | rfl | rfl | rfl | rfl | rfl | rfl | rfl | rfl | rfl | rfl | rfl | rfl | rfl | rfl | rfl
  · exact w_c0
  · exact w_c1
  · exact w_c2
  · exact w_c3
  · exact w_c4
  · exact w_c5
  · exact w_c6
  · exact w_c7
  · exact w_c8
  · exact w_c9
  · exact w_c10
  · exact w_c11
  · exact w_c12
  · exact w_c13
  · exact w_c14
  · exact w_c15
  · exact w_c16
  · exact w_c17
  · exact w_c18
  · exact w_c19
  · exact w_c20
  · exact w_c21
  · exact w_c22
  · exact w_c23
  · exact w_c24
  · exact w_c25
  · exact w_c26
  · exact w_c27
  · exact w_c28
  · exact w_c29
  · exact w_c30
  · exact w_c31
  · exact w_c32
  · exact w_c33
  · exact w_c34
  · exact w_c35
  · exact w_c36
  · exact w_c37
  · exact w_c38
  · exact w_c39
  · exact w_c40
set_option maxRecDepth 65536 in
theorem w_t1 : (words1.take 24).all (fun c => isCode c || c.before args0 about1) = true := by decide +kernel
set_option maxRecDepth 65536 in
theorem w_t2 : ((words1.drop 24).take 24).all (fun c => isCode c || c.before args0 about1) = true := by decide +kernel
set_option maxRecDepth 65536 in
theorem w_t3 : (((words1.drop 24).drop 24).take 24).all (fun c => isCode c || c.before args0 about1) = true := by decide +kernel
set_option maxRecDepth 65536 in
theorem w_t4 : ((((words1.drop 24).drop 24).drop 24).take 24).all (fun c => isCode c || c.before args0 about1) = true := by decide +kernel
set_option maxRecDepth 65536 in
theorem w_t5 : (((((words1.drop 24).drop 24).drop 24).drop 24).take 24).all (fun c => isCode c || c.before args0 about1) = true := by decide +kernel
set_option maxRecDepth 65536 in
theorem w_t6 : ((((((words1.drop 24).drop 24).drop 24).drop 24).drop 24).take 24).all (fun c => isCode c || c.before args0 about1) = true := by decide +kernel
set_option maxRecDepth 65536 in
theorem w_t7 : (((((((words1.drop 24).drop 24).drop 24).drop 24).drop 24).drop 24).take 24).all (fun c => isCode c || c.before args0 about1) = true := by decide +kernel
set_option maxRecDepth 65536 in
theorem w_t8 : ((((((((words1.drop 24).drop 24).drop 24).drop 24).drop 24).drop 24).drop 24).take 24).all (fun c => isCode c || c.before args0 about1) = true := by decide +kernel
set_option maxRecDepth 65536 in
theorem w_t9 : ((((((((words1.drop 24).drop 24).drop 24).drop 24).drop 24).drop 24).drop 24).drop 24).all (fun c => isCode c || c.before args0 about1) = true := by decide +kernel
theorem w_tables : (allAtoms (Jvm.Cond.code x code maxLocals ret :: tables_1)).before args0 about1 = true := by
  rw [allAtoms_all]
  show words1.all (fun c => c.before args0 about1) = true
  refine all_split ?_ w_codes
  rw [← List.take_append_drop 24 words1, List.all_append, w_t1, ← List.take_append_drop 24 (words1.drop 24), List.all_append, w_t2, ← List.take_append_drop 24 ((words1.drop 24).drop 24), List.all_append, w_t3, ← List.take_append_drop 24 (((words1.drop 24).drop 24).drop 24), List.all_append, w_t4, ← List.take_append_drop 24 ((((words1.drop 24).drop 24).drop 24).drop 24), List.all_append, w_t5, ← List.take_append_drop 24 (((((words1.drop 24).drop 24).drop 24).drop 24).drop 24), List.all_append, w_t6, ← List.take_append_drop 24 ((((((words1.drop 24).drop 24).drop 24).drop 24).drop 24).drop 24), List.all_append, w_t7, ← List.take_append_drop 24 (((((((words1.drop 24).drop 24).drop 24).drop 24).drop 24).drop 24).drop 24), List.all_append, w_t8, w_t9]
  rfl
set_option maxRecDepth 65536 in
theorem w_rest : rest_1_c.before args0 about1 = true := by decide +kernel
set_option maxRecDepth 65536 in
theorem w_case : (Jvm.Cond.and given_1 narrow_1).before args0 about1 = true := by decide +kernel
set_option maxRecDepth 65536 in
theorem w_consts : constsHeld consts_1 about1 := Jvm.Lit.constsHeldB_iff.mp (by decide +kernel)
theorem w_applies : (headSpec (Jvm.Cond.code x code maxLocals ret :: tables_1) room_1).applies x e0.platform about1 = true :=
  (Spec.applies_iff w_frames).mpr ⟨w_running, w_runnable, w_alone, w_named, w_hears, w_ripe, w_room, w_tables⟩
theorem atStart : AtStart classFile x code maxLocals ret World_1 tables_1 room_1 Calls_1 rest_1 Pre_1 launch0 p0 e0 about1 theMethod args0 below0 :=
  ⟨lists_1, trivial, launch0.admits_env _ _ _, launch0.least_env, fairChoices_fair.cas, fairChoices_fair.clock, w_frames, w_args, w_heap, w_applies, ⟨w_consts, trivial⟩, w_rest, w_case⟩
end start1
theorem witness_1 : WitnessClaimed_1 := ⟨start1.p0, start1.e0, start1.about1, start1.theMethod, start1.args0, start1.below0, start1.atStart⟩
end Jvm.Pilot.@@N@@
